/- FnUint64Order, FnUint64Round, FnCmpAbs (printed by lawgen.py). -/
import Derived.Test.YtgeddjobgokfaaaCmp3
import Derived.Test.YtgeddjobgokfaaaLaw5
set_option linter.unusedSimpArgs false
set_option linter.unusedVariables false
namespace Go.Proofs.Ytgeddjobgokfaaa
open Go.RowKit

set_option maxHeartbeats 1000000 in
theorem fnUint64Order_lt  (x : Nat) (y : Nat) (w : World)  (hx : x < 18446744073709551616) (hy : y < 18446744073709551616) (hc : x < y) :
    Calls Try.prog 13 #[.int .u64 (x : Nat), .int .u64 (y : Nat)] w (ValR (.bool true) w) := by
  have Hx := Lib.hid hx
  have Hy := Lib.hid hy
  clear hx hy
  have b1 : decide ((x : Int) < (y : Int)) = true := by simp; try omega
  have b2 : decide ((y : Int) < (x : Int)) = false := by simp; try omega
  have b3 : decide (x < y) = true := by simp; try omega
  have b4 : decide (y < x) = false := by simp; try omega

  go_enter Try.func13, Try.ntmps13
  go_wp2_with fail
  refine (setUint_z x _ Hx.out).mono ?_
  rintro e w1 ⟨he, y1, rfl, hy⟩
  have HE := Lib.hid he
  clear he
  have HY1 := Lib.hid hy
  clear hy
  obtain ⟨m1, aa1, ll1, cc1, rfl⟩ := HY1.out.form
  go_wp2_with fail
  refine (setUint_z y _ Hy.out).mono ?_
  rintro e w2 ⟨he, y2, rfl, hy⟩
  replace HY1 := Lib.hid (HY1.out.ext he)
  replace HE := Lib.hid (HE.out.trans he)
  clear he
  have HY2 := Lib.hid hy
  clear hy
  obtain ⟨m2, aa2, ll2, cc2, rfl⟩ := HY2.out.form
  go_wp2_with fail
  refine (compare_z (1) (1) ((x : Int)) ((y : Int)) _ _ _ (HY1.out.z) (HY2.out.z) (by omega) (by omega)).mono ?_
  rintro e w3 ⟨he, y3, rfl, hy⟩
  replace HY1 := Lib.hid (HY1.out.ext he)
  replace HY2 := Lib.hid (HY2.out.ext he)
  replace HE := Lib.hid (HE.out.trans he)
  clear he
  obtain rfl : y3 = .int .i64 (-1) := hy.trans (by rw [cmpZ_lt (by omega)])
  go_wp2_with fail
  go_ret
  exact ⟨HE.out, rfl⟩

set_option maxHeartbeats 1000000 in
theorem fnUint64Order_eq  (x : Nat) (y : Nat) (w : World)  (hx : x < 18446744073709551616) (hy : y < 18446744073709551616) (hc : x = y) :
    Calls Try.prog 13 #[.int .u64 (x : Nat), .int .u64 (y : Nat)] w (ValR (.bool true) w) := by
  subst hc
  have Hx := Lib.hid hx
  have Hy := Lib.hid hy
  clear hx hy
  have b1 : decide ((x : Int) < (x : Int)) = false := by simp; try omega
  have b2 : decide ((x : Int) < (x : Int)) = false := by simp; try omega
  have b3 : decide (x < x) = false := by simp; try omega
  have b4 : decide (x < x) = false := by simp; try omega

  go_enter Try.func13, Try.ntmps13
  go_wp2_with fail
  refine (setUint_z x _ Hx.out).mono ?_
  rintro e w1 ⟨he, y1, rfl, hy⟩
  have HE := Lib.hid he
  clear he
  have HY1 := Lib.hid hy
  clear hy
  obtain ⟨m1, aa1, ll1, cc1, rfl⟩ := HY1.out.form
  go_wp2_with fail
  refine (setUint_z x _ Hx.out).mono ?_
  rintro e w2 ⟨he, y2, rfl, hy⟩
  replace HY1 := Lib.hid (HY1.out.ext he)
  replace HE := Lib.hid (HE.out.trans he)
  clear he
  have HY2 := Lib.hid hy
  clear hy
  obtain ⟨m2, aa2, ll2, cc2, rfl⟩ := HY2.out.form
  go_wp2_with fail
  refine (compare_z (1) (1) ((x : Int)) ((x : Int)) _ _ _ (HY1.out.z) (HY2.out.z) (by omega) (by omega)).mono ?_
  rintro e w3 ⟨he, y3, rfl, hy⟩
  replace HY1 := Lib.hid (HY1.out.ext he)
  replace HY2 := Lib.hid (HY2.out.ext he)
  replace HE := Lib.hid (HE.out.trans he)
  clear he
  obtain rfl : y3 = .int .i64 0 := hy.trans (by rw [cmpZ_eq (by omega)])
  go_wp2_with fail
  go_ret
  exact ⟨HE.out, rfl⟩

set_option maxHeartbeats 1000000 in
theorem fnUint64Order_gt  (x : Nat) (y : Nat) (w : World)  (hx : x < 18446744073709551616) (hy : y < 18446744073709551616) (hc : y < x) :
    Calls Try.prog 13 #[.int .u64 (x : Nat), .int .u64 (y : Nat)] w (ValR (.bool true) w) := by
  have Hx := Lib.hid hx
  have Hy := Lib.hid hy
  clear hx hy
  have b1 : decide ((x : Int) < (y : Int)) = false := by simp; try omega
  have b2 : decide ((y : Int) < (x : Int)) = true := by simp; try omega
  have b3 : decide (x < y) = false := by simp; try omega
  have b4 : decide (y < x) = true := by simp; try omega

  go_enter Try.func13, Try.ntmps13
  go_wp2_with fail
  refine (setUint_z x _ Hx.out).mono ?_
  rintro e w1 ⟨he, y1, rfl, hy⟩
  have HE := Lib.hid he
  clear he
  have HY1 := Lib.hid hy
  clear hy
  obtain ⟨m1, aa1, ll1, cc1, rfl⟩ := HY1.out.form
  go_wp2_with fail
  refine (setUint_z y _ Hy.out).mono ?_
  rintro e w2 ⟨he, y2, rfl, hy⟩
  replace HY1 := Lib.hid (HY1.out.ext he)
  replace HE := Lib.hid (HE.out.trans he)
  clear he
  have HY2 := Lib.hid hy
  clear hy
  obtain ⟨m2, aa2, ll2, cc2, rfl⟩ := HY2.out.form
  go_wp2_with fail
  refine (compare_z (1) (1) ((x : Int)) ((y : Int)) _ _ _ (HY1.out.z) (HY2.out.z) (by omega) (by omega)).mono ?_
  rintro e w3 ⟨he, y3, rfl, hy⟩
  replace HY1 := Lib.hid (HY1.out.ext he)
  replace HY2 := Lib.hid (HY2.out.ext he)
  replace HE := Lib.hid (HE.out.trans he)
  clear he
  obtain rfl : y3 = .int .i64 1 := hy.trans (by rw [cmpZ_gt (by omega)])
  go_wp2_with fail
  go_ret
  exact ⟨HE.out, rfl⟩

theorem u64_nat {x : Int} (hx : (Lit.int .u64 x).wf = true) : ∃ n : Nat, x = n ∧ n < 18446744073709551616 := by
  have h : 0 ≤ x ∧ x ≤ 18446744073709551615 := by simpa [Lit.wf, IntKind.min, IntKind.max, IntKind.signed, IntKind.bits] using hx
  exact ⟨x.toNat, by omega, by omega⟩

theorem fnUint64Order_walk (x y : Int) (w : World) (hx : (Lit.int .u64 x).wf = true) (hy : (Lit.int .u64 y).wf = true) :
    Calls Try.prog 13 #[.int .u64 x, .int .u64 y] w (ValR (.bool true) w) := by
  obtain ⟨a, rfl, ha⟩ := u64_nat hx
  obtain ⟨b, rfl, hb⟩ := u64_nat hy
  rcases Nat.lt_trichotomy a b with h | h | h
  · exact fnUint64Order_lt a b w ha hb h
  · exact fnUint64Order_eq a b w ha hb h
  · exact fnUint64Order_gt a b w ha hb h

set_option maxHeartbeats 1000000 in
theorem fnUint64Round_z  (x : Nat) (w : World)  (hx : x < 18446744073709551616) (hc : x = 0) :
    Calls Try.prog 12 #[.int .u64 (x : Nat)] w (ValR (.bool true) w) := by
  have Hx := Lib.hid hx
  have Hc := Lib.hid hc
  clear hx hc
  have b1 : decide ((x : Int) < 9223372036854775808) = true := by have := Hc.out; simp; omega
  have b2 : ((x : Int) == 0) = true := by have := Hc.out; simp; omega

  go_enter Try.func12, Try.ntmps12
  go_wp2_with fail
  refine (setUint_z x _ Hx.out).mono ?_
  rintro e w1 ⟨he, y1, rfl, hy⟩
  have HE := Lib.hid he
  clear he
  have HY1 := Lib.hid hy
  clear hy
  obtain ⟨m1, aa1, ll1, cc1, rfl⟩ := HY1.out.form
  go_wp2_with fail
  refine (isUint_z (1) ((x : Int)) _ _ ((HY1.out.ext (Ext.alloc _ _)).z) (by omega)).mono ?_
  rintro e w2 ⟨he, y2, rfl, hy⟩
  replace HY1 := Lib.hid (HY1.out.ext ((Ext.alloc _ _).trans he))
  replace HE := Lib.hid (HE.out.trans ((Ext.alloc _ _).trans he))
  have hb := he.block (heap_alloc_new _ _)
  have cv30 := blk_cell hb 0
  have cv31 := blk_cell hb 1
  simp at cv30 cv31
  clear hb
  clear he
  obtain rfl : y2 = .bool true := hy.trans (by have := Hx.out; simp [isU]; omega)
  have cv30' := fun o => (Ext.alloc w2 o).cell cv30
  have cv31' := fun o => (Ext.alloc w2 o).cell cv31
  go_wp2_with fail
  refine (toImpl_z (1) ((x : Int)) _ _ (HY1.out.z) (by omega)).mono ?_
  rintro e w3 ⟨he, y3, rfl, hy⟩
  clear cv30' cv31'
  replace HY1 := Lib.hid (HY1.out.ext he)
  replace HE := Lib.hid (HE.out.trans he)
  replace cv30 := he.cell cv30
  replace cv31 := he.cell cv31
  clear he
  have HY3 := Lib.hid hy
  clear hy
  obtain ⟨m3, aa3, ll3, cc3, rfl⟩ := HY3.out.form
  have cv30' := fun o => (Ext.alloc w3 o).cell cv30
  have cv31' := fun o => (Ext.alloc w3 o).cell cv31
  go_wp2_with fail
  refine (implUint64_z (1) ((x : Int)) _ _ (HY3.out.z) (by omega)).mono ?_
  rintro e w4 ⟨he, y4, rfl, hy⟩
  clear cv30' cv31'
  replace HY1 := Lib.hid (HY1.out.ext he)
  replace HY3 := Lib.hid (HY3.out.ext he)
  replace HE := Lib.hid (HE.out.trans he)
  replace cv30 := he.cell cv30
  replace cv31 := he.cell cv31
  clear he
  obtain rfl : y4 = .int .u64 (x : Nat) := hy.trans (by rw [show low (x : Int) = (x : Int) by have := Hx.out; simp [low]; omega])
  have cv30' := fun o => (Ext.alloc w4 o).cell cv30
  have cv31' := fun o => (Ext.alloc w4 o).cell cv31
  go_wp2_with fail
  refine (isInt_z (1) ((x : Int)) _ _ (HY1.out.z) (by omega)).mono ?_
  rintro e w5 ⟨he, y5, rfl, hy⟩
  clear cv30' cv31'
  replace HY1 := Lib.hid (HY1.out.ext he)
  replace HY3 := Lib.hid (HY3.out.ext he)
  replace HE := Lib.hid (HE.out.trans he)
  replace cv30 := he.cell cv30
  replace cv31 := he.cell cv31
  clear he
  obtain rfl : y5 = .bool true := hy.trans (by have := Hc.out; simp [isI]; omega)
  have cv30' := fun o => (Ext.alloc w5 o).cell cv30
  have cv31' := fun o => (Ext.alloc w5 o).cell cv31
  go_wp2_with fail
  refine (neg_z (1) ((x : Int)) _ _ (HY1.out.z) (by omega)).mono ?_
  rintro e w6 ⟨he, y6, rfl, hy⟩
  clear cv30' cv31'
  replace HY1 := Lib.hid (HY1.out.ext he)
  replace HY3 := Lib.hid (HY3.out.ext he)
  replace HE := Lib.hid (HE.out.trans he)
  replace cv30 := he.cell cv30
  replace cv31 := he.cell cv31
  clear he
  have HY6 := Lib.hid hy
  clear hy
  obtain ⟨m6, aa6, ll6, cc6, rfl⟩ := HY6.out.form
  have cv30' := fun o => (Ext.alloc w6 o).cell cv30
  have cv31' := fun o => (Ext.alloc w6 o).cell cv31
  go_wp2_with fail
  refine (sign_z (1) (-((x : Int))) _ _ (HY6.out.z) (by omega)).mono ?_
  rintro e w7 ⟨he, y7, rfl, hy⟩
  clear cv30' cv31'
  replace HY1 := Lib.hid (HY1.out.ext he)
  replace HY3 := Lib.hid (HY3.out.ext he)
  replace HY6 := Lib.hid (HY6.out.ext he)
  replace HE := Lib.hid (HE.out.trans he)
  replace cv30 := he.cell cv30
  replace cv31 := he.cell cv31
  clear he
  obtain rfl : y7 = .int .i64 0 := hy.trans (by have := Hc.out; simp [sgnZ]; try omega)
  have cv30' := fun o => (Ext.alloc w7 o).cell cv30
  have cv31' := fun o => (Ext.alloc w7 o).cell cv31
  go_wp2_with fail
  refine (neg_z (1) ((x : Int)) _ _ (HY1.out.z) (by omega)).mono ?_
  rintro e w8 ⟨he, y8, rfl, hy⟩
  clear cv30' cv31'
  replace HY1 := Lib.hid (HY1.out.ext he)
  replace HY3 := Lib.hid (HY3.out.ext he)
  replace HY6 := Lib.hid (HY6.out.ext he)
  replace HE := Lib.hid (HE.out.trans he)
  replace cv30 := he.cell cv30
  replace cv31 := he.cell cv31
  clear he
  have HY8 := Lib.hid hy
  clear hy
  obtain ⟨m8, aa8, ll8, cc8, rfl⟩ := HY8.out.form
  have cv30' := fun o => (Ext.alloc w8 o).cell cv30
  have cv31' := fun o => (Ext.alloc w8 o).cell cv31
  go_wp2_with fail
  refine (isUint_z (1) (-((x : Int))) _ _ (HY8.out.z) (by omega)).mono ?_
  rintro e w9 ⟨he, y9, rfl, hy⟩
  clear cv30' cv31'
  replace HY1 := Lib.hid (HY1.out.ext he)
  replace HY3 := Lib.hid (HY3.out.ext he)
  replace HY6 := Lib.hid (HY6.out.ext he)
  replace HY8 := Lib.hid (HY8.out.ext he)
  replace HE := Lib.hid (HE.out.trans he)
  replace cv30 := he.cell cv30
  replace cv31 := he.cell cv31
  clear he
  obtain rfl : y9 = .bool true := hy.trans (by have := Hc.out; simp [isU]; try omega)
  have cv30' := fun o => (Ext.alloc w9 o).cell cv30
  have cv31' := fun o => (Ext.alloc w9 o).cell cv31
  go_wp2_with fail
  go_ret
  exact ⟨HE.out, rfl⟩

set_option maxHeartbeats 1000000 in
theorem fnUint64Round_l  (x : Nat) (w : World)  (hx : x < 18446744073709551616) (hc : 0 < x ∧ x < 9223372036854775808) :
    Calls Try.prog 12 #[.int .u64 (x : Nat)] w (ValR (.bool true) w) := by
  have Hx := Lib.hid hx
  have Hc := Lib.hid hc
  clear hx hc
  have b1 : decide ((x : Int) < 9223372036854775808) = true := by have := Hc.out; simp; omega
  have b2 : ((x : Int) == 0) = false := by have := Hc.out; simp; omega

  go_enter Try.func12, Try.ntmps12
  go_wp2_with fail
  refine (setUint_z x _ Hx.out).mono ?_
  rintro e w1 ⟨he, y1, rfl, hy⟩
  have HE := Lib.hid he
  clear he
  have HY1 := Lib.hid hy
  clear hy
  obtain ⟨m1, aa1, ll1, cc1, rfl⟩ := HY1.out.form
  go_wp2_with fail
  refine (isUint_z (1) ((x : Int)) _ _ ((HY1.out.ext (Ext.alloc _ _)).z) (by omega)).mono ?_
  rintro e w2 ⟨he, y2, rfl, hy⟩
  replace HY1 := Lib.hid (HY1.out.ext ((Ext.alloc _ _).trans he))
  replace HE := Lib.hid (HE.out.trans ((Ext.alloc _ _).trans he))
  have hb := he.block (heap_alloc_new _ _)
  have cv30 := blk_cell hb 0
  have cv31 := blk_cell hb 1
  simp at cv30 cv31
  clear hb
  clear he
  obtain rfl : y2 = .bool true := hy.trans (by have := Hx.out; simp [isU]; omega)
  have cv30' := fun o => (Ext.alloc w2 o).cell cv30
  have cv31' := fun o => (Ext.alloc w2 o).cell cv31
  go_wp2_with fail
  refine (toImpl_z (1) ((x : Int)) _ _ (HY1.out.z) (by omega)).mono ?_
  rintro e w3 ⟨he, y3, rfl, hy⟩
  clear cv30' cv31'
  replace HY1 := Lib.hid (HY1.out.ext he)
  replace HE := Lib.hid (HE.out.trans he)
  replace cv30 := he.cell cv30
  replace cv31 := he.cell cv31
  clear he
  have HY3 := Lib.hid hy
  clear hy
  obtain ⟨m3, aa3, ll3, cc3, rfl⟩ := HY3.out.form
  have cv30' := fun o => (Ext.alloc w3 o).cell cv30
  have cv31' := fun o => (Ext.alloc w3 o).cell cv31
  go_wp2_with fail
  refine (implUint64_z (1) ((x : Int)) _ _ (HY3.out.z) (by omega)).mono ?_
  rintro e w4 ⟨he, y4, rfl, hy⟩
  clear cv30' cv31'
  replace HY1 := Lib.hid (HY1.out.ext he)
  replace HY3 := Lib.hid (HY3.out.ext he)
  replace HE := Lib.hid (HE.out.trans he)
  replace cv30 := he.cell cv30
  replace cv31 := he.cell cv31
  clear he
  obtain rfl : y4 = .int .u64 (x : Nat) := hy.trans (by rw [show low (x : Int) = (x : Int) by have := Hx.out; simp [low]; omega])
  have cv30' := fun o => (Ext.alloc w4 o).cell cv30
  have cv31' := fun o => (Ext.alloc w4 o).cell cv31
  go_wp2_with fail
  refine (isInt_z (1) ((x : Int)) _ _ (HY1.out.z) (by omega)).mono ?_
  rintro e w5 ⟨he, y5, rfl, hy⟩
  clear cv30' cv31'
  replace HY1 := Lib.hid (HY1.out.ext he)
  replace HY3 := Lib.hid (HY3.out.ext he)
  replace HE := Lib.hid (HE.out.trans he)
  replace cv30 := he.cell cv30
  replace cv31 := he.cell cv31
  clear he
  obtain rfl : y5 = .bool true := hy.trans (by have := Hc.out; simp [isI]; omega)
  have cv30' := fun o => (Ext.alloc w5 o).cell cv30
  have cv31' := fun o => (Ext.alloc w5 o).cell cv31
  go_wp2_with fail
  refine (neg_z (1) ((x : Int)) _ _ (HY1.out.z) (by omega)).mono ?_
  rintro e w6 ⟨he, y6, rfl, hy⟩
  clear cv30' cv31'
  replace HY1 := Lib.hid (HY1.out.ext he)
  replace HY3 := Lib.hid (HY3.out.ext he)
  replace HE := Lib.hid (HE.out.trans he)
  replace cv30 := he.cell cv30
  replace cv31 := he.cell cv31
  clear he
  have HY6 := Lib.hid hy
  clear hy
  obtain ⟨m6, aa6, ll6, cc6, rfl⟩ := HY6.out.form
  have cv30' := fun o => (Ext.alloc w6 o).cell cv30
  have cv31' := fun o => (Ext.alloc w6 o).cell cv31
  go_wp2_with fail
  refine (sign_z (1) (-((x : Int))) _ _ (HY6.out.z) (by omega)).mono ?_
  rintro e w7 ⟨he, y7, rfl, hy⟩
  clear cv30' cv31'
  replace HY1 := Lib.hid (HY1.out.ext he)
  replace HY3 := Lib.hid (HY3.out.ext he)
  replace HY6 := Lib.hid (HY6.out.ext he)
  replace HE := Lib.hid (HE.out.trans he)
  replace cv30 := he.cell cv30
  replace cv31 := he.cell cv31
  clear he
  obtain rfl : y7 = .int .i64 (-1) := hy.trans (by have := Hc.out; simp [sgnZ]; try omega)
  have cv30' := fun o => (Ext.alloc w7 o).cell cv30
  have cv31' := fun o => (Ext.alloc w7 o).cell cv31
  go_wp2_with fail
  refine (neg_z (1) ((x : Int)) _ _ (HY1.out.z) (by omega)).mono ?_
  rintro e w8 ⟨he, y8, rfl, hy⟩
  clear cv30' cv31'
  replace HY1 := Lib.hid (HY1.out.ext he)
  replace HY3 := Lib.hid (HY3.out.ext he)
  replace HY6 := Lib.hid (HY6.out.ext he)
  replace HE := Lib.hid (HE.out.trans he)
  replace cv30 := he.cell cv30
  replace cv31 := he.cell cv31
  clear he
  have HY8 := Lib.hid hy
  clear hy
  obtain ⟨m8, aa8, ll8, cc8, rfl⟩ := HY8.out.form
  have cv30' := fun o => (Ext.alloc w8 o).cell cv30
  have cv31' := fun o => (Ext.alloc w8 o).cell cv31
  go_wp2_with fail
  refine (isUint_z (1) (-((x : Int))) _ _ (HY8.out.z) (by omega)).mono ?_
  rintro e w9 ⟨he, y9, rfl, hy⟩
  clear cv30' cv31'
  replace HY1 := Lib.hid (HY1.out.ext he)
  replace HY3 := Lib.hid (HY3.out.ext he)
  replace HY6 := Lib.hid (HY6.out.ext he)
  replace HY8 := Lib.hid (HY8.out.ext he)
  replace HE := Lib.hid (HE.out.trans he)
  replace cv30 := he.cell cv30
  replace cv31 := he.cell cv31
  clear he
  obtain rfl : y9 = .bool false := hy.trans (by have := Hc.out; simp [isU]; try omega)
  have cv30' := fun o => (Ext.alloc w9 o).cell cv30
  have cv31' := fun o => (Ext.alloc w9 o).cell cv31
  go_wp2_with fail
  go_ret
  exact ⟨HE.out, rfl⟩

set_option maxHeartbeats 1000000 in
theorem fnUint64Round_h  (x : Nat) (w : World)  (hx : x < 18446744073709551616) (hc : 9223372036854775808 ≤ x) :
    Calls Try.prog 12 #[.int .u64 (x : Nat)] w (ValR (.bool true) w) := by
  have Hx := Lib.hid hx
  have Hc := Lib.hid hc
  clear hx hc
  have b1 : decide ((x : Int) < 9223372036854775808) = false := by have := Hc.out; simp; omega
  have b2 : ((x : Int) == 0) = false := by have := Hc.out; simp; omega

  go_enter Try.func12, Try.ntmps12
  go_wp2_with fail
  refine (setUint_z x _ Hx.out).mono ?_
  rintro e w1 ⟨he, y1, rfl, hy⟩
  have HE := Lib.hid he
  clear he
  have HY1 := Lib.hid hy
  clear hy
  obtain ⟨m1, aa1, ll1, cc1, rfl⟩ := HY1.out.form
  go_wp2_with fail
  refine (isUint_z (1) ((x : Int)) _ _ ((HY1.out.ext (Ext.alloc _ _)).z) (by omega)).mono ?_
  rintro e w2 ⟨he, y2, rfl, hy⟩
  replace HY1 := Lib.hid (HY1.out.ext ((Ext.alloc _ _).trans he))
  replace HE := Lib.hid (HE.out.trans ((Ext.alloc _ _).trans he))
  have hb := he.block (heap_alloc_new _ _)
  have cv30 := blk_cell hb 0
  have cv31 := blk_cell hb 1
  simp at cv30 cv31
  clear hb
  clear he
  obtain rfl : y2 = .bool true := hy.trans (by have := Hx.out; simp [isU]; omega)
  have cv30' := fun o => (Ext.alloc w2 o).cell cv30
  have cv31' := fun o => (Ext.alloc w2 o).cell cv31
  go_wp2_with fail
  refine (toImpl_z (1) ((x : Int)) _ _ (HY1.out.z) (by omega)).mono ?_
  rintro e w3 ⟨he, y3, rfl, hy⟩
  clear cv30' cv31'
  replace HY1 := Lib.hid (HY1.out.ext he)
  replace HE := Lib.hid (HE.out.trans he)
  replace cv30 := he.cell cv30
  replace cv31 := he.cell cv31
  clear he
  have HY3 := Lib.hid hy
  clear hy
  obtain ⟨m3, aa3, ll3, cc3, rfl⟩ := HY3.out.form
  have cv30' := fun o => (Ext.alloc w3 o).cell cv30
  have cv31' := fun o => (Ext.alloc w3 o).cell cv31
  go_wp2_with fail
  refine (implUint64_z (1) ((x : Int)) _ _ (HY3.out.z) (by omega)).mono ?_
  rintro e w4 ⟨he, y4, rfl, hy⟩
  clear cv30' cv31'
  replace HY1 := Lib.hid (HY1.out.ext he)
  replace HY3 := Lib.hid (HY3.out.ext he)
  replace HE := Lib.hid (HE.out.trans he)
  replace cv30 := he.cell cv30
  replace cv31 := he.cell cv31
  clear he
  obtain rfl : y4 = .int .u64 (x : Nat) := hy.trans (by rw [show low (x : Int) = (x : Int) by have := Hx.out; simp [low]; omega])
  have cv30' := fun o => (Ext.alloc w4 o).cell cv30
  have cv31' := fun o => (Ext.alloc w4 o).cell cv31
  go_wp2_with fail
  refine (isInt_z (1) ((x : Int)) _ _ (HY1.out.z) (by omega)).mono ?_
  rintro e w5 ⟨he, y5, rfl, hy⟩
  clear cv30' cv31'
  replace HY1 := Lib.hid (HY1.out.ext he)
  replace HY3 := Lib.hid (HY3.out.ext he)
  replace HE := Lib.hid (HE.out.trans he)
  replace cv30 := he.cell cv30
  replace cv31 := he.cell cv31
  clear he
  obtain rfl : y5 = .bool false := hy.trans (by have := Hc.out; simp [isI]; omega)
  have cv30' := fun o => (Ext.alloc w5 o).cell cv30
  have cv31' := fun o => (Ext.alloc w5 o).cell cv31
  go_wp2_with fail
  refine (neg_z (1) ((x : Int)) _ _ (HY1.out.z) (by omega)).mono ?_
  rintro e w6 ⟨he, y6, rfl, hy⟩
  clear cv30' cv31'
  replace HY1 := Lib.hid (HY1.out.ext he)
  replace HY3 := Lib.hid (HY3.out.ext he)
  replace HE := Lib.hid (HE.out.trans he)
  replace cv30 := he.cell cv30
  replace cv31 := he.cell cv31
  clear he
  have HY6 := Lib.hid hy
  clear hy
  obtain ⟨m6, aa6, ll6, cc6, rfl⟩ := HY6.out.form
  have cv30' := fun o => (Ext.alloc w6 o).cell cv30
  have cv31' := fun o => (Ext.alloc w6 o).cell cv31
  go_wp2_with fail
  refine (sign_z (1) (-((x : Int))) _ _ (HY6.out.z) (by omega)).mono ?_
  rintro e w7 ⟨he, y7, rfl, hy⟩
  clear cv30' cv31'
  replace HY1 := Lib.hid (HY1.out.ext he)
  replace HY3 := Lib.hid (HY3.out.ext he)
  replace HY6 := Lib.hid (HY6.out.ext he)
  replace HE := Lib.hid (HE.out.trans he)
  replace cv30 := he.cell cv30
  replace cv31 := he.cell cv31
  clear he
  obtain rfl : y7 = .int .i64 (-1) := hy.trans (by have := Hc.out; simp [sgnZ]; try omega)
  have cv30' := fun o => (Ext.alloc w7 o).cell cv30
  have cv31' := fun o => (Ext.alloc w7 o).cell cv31
  go_wp2_with fail
  refine (neg_z (1) ((x : Int)) _ _ (HY1.out.z) (by omega)).mono ?_
  rintro e w8 ⟨he, y8, rfl, hy⟩
  clear cv30' cv31'
  replace HY1 := Lib.hid (HY1.out.ext he)
  replace HY3 := Lib.hid (HY3.out.ext he)
  replace HY6 := Lib.hid (HY6.out.ext he)
  replace HE := Lib.hid (HE.out.trans he)
  replace cv30 := he.cell cv30
  replace cv31 := he.cell cv31
  clear he
  have HY8 := Lib.hid hy
  clear hy
  obtain ⟨m8, aa8, ll8, cc8, rfl⟩ := HY8.out.form
  have cv30' := fun o => (Ext.alloc w8 o).cell cv30
  have cv31' := fun o => (Ext.alloc w8 o).cell cv31
  go_wp2_with fail
  refine (isUint_z (1) (-((x : Int))) _ _ (HY8.out.z) (by omega)).mono ?_
  rintro e w9 ⟨he, y9, rfl, hy⟩
  clear cv30' cv31'
  replace HY1 := Lib.hid (HY1.out.ext he)
  replace HY3 := Lib.hid (HY3.out.ext he)
  replace HY6 := Lib.hid (HY6.out.ext he)
  replace HY8 := Lib.hid (HY8.out.ext he)
  replace HE := Lib.hid (HE.out.trans he)
  replace cv30 := he.cell cv30
  replace cv31 := he.cell cv31
  clear he
  obtain rfl : y9 = .bool false := hy.trans (by have := Hc.out; simp [isU]; try omega)
  have cv30' := fun o => (Ext.alloc w9 o).cell cv30
  have cv31' := fun o => (Ext.alloc w9 o).cell cv31
  go_wp2_with fail
  go_ret
  exact ⟨HE.out, rfl⟩

theorem fnUint64Round_walk (x : Int) (w : World) (hx : (Lit.int .u64 x).wf = true) :
    Calls Try.prog 12 #[.int .u64 x] w (ValR (.bool true) w) := by
  obtain ⟨a, rfl, ha⟩ := u64_nat hx
  by_cases h : a = 0
  · exact fnUint64Round_z a w ha h
  · by_cases h2 : a < 9223372036854775808
    · exact fnUint64Round_l a w ha ⟨by omega, h2⟩
    · exact fnUint64Round_h a w ha (by omega)

set_option maxHeartbeats 1000000 in
theorem fnCmpAbs_walk_1 (n0 : Bool) (v0 : Value) (ws0 : List Nat) (n1 : Bool) (v1 : Value) (ws1 : List Nat) (w : World) (hr0 : Rd .u64 w v0 ws0) (hl0 : ws0.length ≤ 17592186043904) (hr1 : Rd .u64 w v1 ws1) (hl1 : ws1.length ≤ 17592186043904) (hc : (ival n0 ws0) = (ival n1 ws1)) :
    Calls Try.prog 14 #[.agg #[.bool n0, v0], .agg #[.bool n1, v1]] w (ValR (.bool true) w) := by
  obtain ⟨a0, c0, rfl⟩ := hr0.form
  have hz0 : IsZ 17592186043904 (ival n0 ws0) (.agg #[.bool n0, .slice a0 ws0.length c0]) w := ⟨n0, _, ws0, rfl, hr0, hl0, rfl⟩
  generalize hg0 : ival n0 ws0 = a at hz0
  have HZ0 := Lib.hid hz0
  have HG0 := Lib.hid hg0
  clear hz0 hg0 hr0
  obtain ⟨a1, c1, rfl⟩ := hr1.form
  have hz1 : IsZ 17592186043904 (ival n1 ws1) (.agg #[.bool n1, .slice a1 ws1.length c1]) w := ⟨n1, _, ws1, rfl, hr1, hl1, rfl⟩
  generalize hg1 : ival n1 ws1 = b at hz1
  have HZ1 := Lib.hid hz1
  have HG1 := Lib.hid hg1
  clear hz1 hg1 hr1
  have HC : Hid (a = b) := by simp only [HG0.out, HG1.out] at hc; exact hc
  clear hc
  go_enter Try.func14, Try.ntmps14
  go_wp2_with fail
  refine wp_region_D preExt mixed [IsZ (17592186043904) (a), IsZ (17592186043904) (b), Is (.int .i64 (cmpZ ((a).natAbs : Int) ((b).natAbs : Int))), IsZ (17592186043904) (a), IsC (17592186043904) (((a).natAbs : Int)), IsZ (17592186043904) (b), IsC (17592186043904) (((b).natAbs : Int)), Is (.int .i64 (cmpZ (((a).natAbs : Int)) (((b).natAbs : Int)))), Is (.bool true), Is (.bool true), IsZ (17592186043904) (a), IsZ (17592186043904) (b), Is (.int .i64 (cmpZ ((a).natAbs : Int) ((b).natAbs : Int))), IsZ (17592186043904) (a), IsC (17592186043904) (-(a)), IsZ (17592186043904) (b), Is (.int .i64 (cmpZ ((a).natAbs : Int) ((b).natAbs : Int))), Is (.bool true), Is (.bool true), Is (.bool true), IsZ (17592186043904) (a), IsZ (17592186043904) (a), IsC (17592186043904) (-(a)), Is (.int .i64 0), Is (.bool true), Is (.bool true), Is (.bool true), IsZ (17592186043904) (a), IsZ (17592186043904) (b), Is (.int .i64 (cmpZ ((a).natAbs : Int) ((b).natAbs : Int))), Is (.bool true), IsZ (17592186043904) (a), IsZ (17592186043904) (b), Is (.bool true), Is (.bool true), Any, Any, Any, Any, Any, Any, Is (.bool true), Is (.bool true), Is (.bool true)] (by kernel_rfl) ?mono rfl ?steps ?last
  case mono =>
    simp only [List.forall_mem_cons, List.not_mem_nil, false_implies, implies_true, and_true]
    refine ⟨?_, ?_, ?_, ?_, ?_, ?_, ?_, ?_, ?_, ?_, ?_, ?_, ?_, ?_, ?_, ?_, ?_, ?_, ?_, ?_, ?_, ?_, ?_, ?_, ?_, ?_, ?_, ?_, ?_, ?_, ?_, ?_, ?_, ?_, ?_, ?_, ?_, ?_, ?_, ?_, ?_, ?_, ?_, ?_⟩
    all_goals first | exact fun _ _ _ _ q => q | exact fun _ _ _ he q => q.ext he
  case steps =>
    refine ⟨?_, ?_, ?_, ?_, ?_, ?_, ?_, ?_, ?_, ?_, ?_, ?_, ?_, ?_, ?_, ?_, ?_, ?_, ?_, ?_, ?_, ?_, ?_, ?_, ?_, ?_, ?_, ?_, ?_, ?_, ?_, ?_, ?_, ?_, ?_, ?_, ?_, ?_, ?_, ?_, ?_, ?_, ?_, ?_, trivial⟩
    all_goals
      intro u0 u1 u2 u3 u4 u5 u6 u7 u8 u9 u10 u11 u12 u13 u14 u15 u16 u17 u18 u19 u20 u21 u22 u23 u24 u25 u26 u27 u28 u29 u30 u31 u32 u33 u34 u35 u36 u37 u38 u39 u40 u41 u42 u43 u44 w1 he hk
      simp [KnownD, Oper.looksAt, Op.operands, Call.operands, List.findIdx?_cons, Act.put] at hk
      simp only [Act.put, List.setIfInBounds_toArray, List.set_cons_succ, List.set_cons_zero]
    · have hb := he.block ((Ext.alloc _ _).block (heap_alloc_new _ _))
      have hc0 := blk_cell hb 0
      have hc1 := blk_cell hb 1
      simp at hc0 hc1
      clear hb
      go_wp2_with fail
      exact ⟨rfl, Ext.refl _, HZ0.out.ext (((Ext.alloc _ _).trans (Ext.alloc _ _)).trans he)⟩
    · have hb := he.block (heap_second _ _ _)
      have hc0 := blk_cell hb 0
      have hc1 := blk_cell hb 1
      simp at hc0 hc1
      clear hb
      go_wp2_with fail
      exact ⟨rfl, Ext.refl _, HZ1.out.ext (((Ext.alloc _ _).trans (Ext.alloc _ _)).trans he)⟩
    · obtain ⟨k0, k1⟩ := hk
      have H0 := Lib.hid k0
      have H1 := Lib.hid k1
      clear k0 k1
      go_wp2_with fail
      refine (cmpAbs_z (17592186043904) (17592186043904) (a) (b) _ _ _ (H0.out) (H1.out) (by omega) (by omega)).mono ?_
      rintro e w2 ⟨he2, x, rfl, hx⟩
      obtain rfl : x = .int .i64 (cmpZ ((a).natAbs : Int) ((b).natAbs : Int)) := hx
      go_wp2_with fail
      exact ⟨rfl, he2, rfl⟩
    · have hb := he.block ((Ext.alloc _ _).block (heap_alloc_new _ _))
      have hc0 := blk_cell hb 0
      have hc1 := blk_cell hb 1
      simp at hc0 hc1
      clear hb
      go_wp2_with fail
      exact ⟨rfl, Ext.refl _, HZ0.out.ext (((Ext.alloc _ _).trans (Ext.alloc _ _)).trans he)⟩
    · have k0 := hk
      have H0 := Lib.hid k0
      clear k0
      go_wp2_with fail
      refine (abs_z (17592186043904) (a) _ _ (H0.out) (by omega)).mono ?_
      rintro e w2 ⟨he2, x, rfl, hx⟩
      have HX := Lib.hid hx
      clear hx
      go_wp2_with fail
      exact ⟨rfl, he2, HX.out⟩
    · have hb := he.block (heap_second _ _ _)
      have hc0 := blk_cell hb 0
      have hc1 := blk_cell hb 1
      simp at hc0 hc1
      clear hb
      go_wp2_with fail
      exact ⟨rfl, Ext.refl _, HZ1.out.ext (((Ext.alloc _ _).trans (Ext.alloc _ _)).trans he)⟩
    · have k0 := hk
      have H0 := Lib.hid k0
      clear k0
      go_wp2_with fail
      refine (abs_z (17592186043904) (b) _ _ (H0.out) (by omega)).mono ?_
      rintro e w2 ⟨he2, x, rfl, hx⟩
      have HX := Lib.hid hx
      clear hx
      go_wp2_with fail
      exact ⟨rfl, he2, HX.out⟩
    · obtain ⟨k0, k1⟩ := hk
      have H0 := Lib.hid k0
      have H1 := Lib.hid k1
      clear k0 k1
      go_wp2_with fail
      refine (compare_z (17592186043904) (17592186043904) (((a).natAbs : Int)) (((b).natAbs : Int)) _ _ _ (H0.out.z) (H1.out.z) (by omega) (by omega)).mono ?_
      rintro e w2 ⟨he2, x, rfl, hx⟩
      obtain rfl : x = .int .i64 (cmpZ (((a).natAbs : Int)) (((b).natAbs : Int))) := hx
      go_wp2_with fail
      exact ⟨rfl, he2, rfl⟩
    · obtain ⟨k0, k1⟩ := hk
      obtain rfl : u2 = .int .i64 (cmpZ ((a).natAbs : Int) ((b).natAbs : Int)) := k0
      obtain rfl : u7 = .int .i64 (cmpZ (((a).natAbs : Int)) (((b).natAbs : Int))) := k1
      go_wp2_with fail
      exact ⟨rfl, Ext.refl _, by show (_ : Value) = _; (simp); try rfl⟩
    · have k0 := hk
      obtain rfl : u8 = .bool true := k0
      go_wp2_with fail
      exact ⟨rfl, Ext.refl _, by show (_ : Value) = _; (first | rfl | simp); try rfl⟩
    · have k0 := hk
      obtain rfl : u9 = .bool true := k0
      have hb := he.block ((Ext.alloc _ _).block (heap_alloc_new _ _))
      have hc0 := blk_cell hb 0
      have hc1 := blk_cell hb 1
      simp at hc0 hc1
      clear hb
      go_wp2_with fail
      exact ⟨rfl, Ext.refl _, HZ0.out.ext (((Ext.alloc _ _).trans (Ext.alloc _ _)).trans he)⟩
    · have k0 := hk
      obtain rfl : u9 = .bool true := k0
      have hb := he.block (heap_second _ _ _)
      have hc0 := blk_cell hb 0
      have hc1 := blk_cell hb 1
      simp at hc0 hc1
      clear hb
      go_wp2_with fail
      exact ⟨rfl, Ext.refl _, HZ1.out.ext (((Ext.alloc _ _).trans (Ext.alloc _ _)).trans he)⟩
    · obtain ⟨k0, k1, k2⟩ := hk
      obtain rfl : u9 = .bool true := k2
      have H0 := Lib.hid k0
      have H1 := Lib.hid k1
      clear k0 k1
      go_wp2_with fail
      refine (cmpAbs_z (17592186043904) (17592186043904) (a) (b) _ _ _ (H0.out) (H1.out) (by omega) (by omega)).mono ?_
      rintro e w2 ⟨he2, x, rfl, hx⟩
      obtain rfl : x = .int .i64 (cmpZ ((a).natAbs : Int) ((b).natAbs : Int)) := hx
      go_wp2_with fail
      exact ⟨rfl, he2, rfl⟩
    · have k0 := hk
      obtain rfl : u9 = .bool true := k0
      have hb := he.block ((Ext.alloc _ _).block (heap_alloc_new _ _))
      have hc0 := blk_cell hb 0
      have hc1 := blk_cell hb 1
      simp at hc0 hc1
      clear hb
      go_wp2_with fail
      exact ⟨rfl, Ext.refl _, HZ0.out.ext (((Ext.alloc _ _).trans (Ext.alloc _ _)).trans he)⟩
    · obtain ⟨k0, k1⟩ := hk
      obtain rfl : u9 = .bool true := k1
      have H0 := Lib.hid k0
      clear k0
      go_wp2_with fail
      refine (neg_z (17592186043904) (a) _ _ (H0.out) (by omega)).mono ?_
      rintro e w2 ⟨he2, x, rfl, hx⟩
      have HX := Lib.hid hx
      clear hx
      go_wp2_with fail
      exact ⟨rfl, he2, HX.out⟩
    · have k0 := hk
      obtain rfl : u9 = .bool true := k0
      have hb := he.block (heap_second _ _ _)
      have hc0 := blk_cell hb 0
      have hc1 := blk_cell hb 1
      simp at hc0 hc1
      clear hb
      go_wp2_with fail
      exact ⟨rfl, Ext.refl _, HZ1.out.ext (((Ext.alloc _ _).trans (Ext.alloc _ _)).trans he)⟩
    · obtain ⟨k0, k1, k2⟩ := hk
      obtain rfl : u9 = .bool true := k2
      have H0 := Lib.hid k0
      have H1 := Lib.hid k1
      clear k0 k1
      go_wp2_with fail
      refine (cmpAbs_z (17592186043904) (17592186043904) (-(a)) (b) _ _ _ (H0.out.z) (H1.out) (by omega) (by omega)).mono ?_
      rintro e w2 ⟨he2, x, rfl, hx⟩
      obtain rfl : x = .int .i64 (cmpZ ((a).natAbs : Int) ((b).natAbs : Int)) := hx.trans (by simp only [Int.natAbs_neg])
      go_wp2_with fail
      exact ⟨rfl, he2, rfl⟩
    · obtain ⟨k0, k1, k2⟩ := hk
      obtain rfl : u12 = .int .i64 (cmpZ ((a).natAbs : Int) ((b).natAbs : Int)) := k0
      obtain rfl : u16 = .int .i64 (cmpZ ((a).natAbs : Int) ((b).natAbs : Int)) := k1
      obtain rfl : u9 = .bool true := k2
      go_wp2_with fail
      exact ⟨rfl, Ext.refl _, by show (_ : Value) = _; (simp); try rfl⟩
    · obtain ⟨k0, k1⟩ := hk
      obtain rfl : u9 = .bool true := k0
      obtain rfl : u17 = .bool true := k1
      go_wp2_with fail
      exact ⟨rfl, Ext.refl _, by show (_ : Value) = _; (first | rfl | simp); try rfl⟩
    · have k0 := hk
      obtain rfl : u18 = .bool true := k0
      go_wp2_with fail
      exact ⟨rfl, Ext.refl _, by show (_ : Value) = _; (first | rfl | simp); try rfl⟩
    · have k0 := hk
      obtain rfl : u19 = .bool true := k0
      have hb := he.block ((Ext.alloc _ _).block (heap_alloc_new _ _))
      have hc0 := blk_cell hb 0
      have hc1 := blk_cell hb 1
      simp at hc0 hc1
      clear hb
      go_wp2_with fail
      exact ⟨rfl, Ext.refl _, HZ0.out.ext (((Ext.alloc _ _).trans (Ext.alloc _ _)).trans he)⟩
    · have k0 := hk
      obtain rfl : u19 = .bool true := k0
      have hb := he.block ((Ext.alloc _ _).block (heap_alloc_new _ _))
      have hc0 := blk_cell hb 0
      have hc1 := blk_cell hb 1
      simp at hc0 hc1
      clear hb
      go_wp2_with fail
      exact ⟨rfl, Ext.refl _, HZ0.out.ext (((Ext.alloc _ _).trans (Ext.alloc _ _)).trans he)⟩
    · obtain ⟨k0, k1⟩ := hk
      obtain rfl : u19 = .bool true := k1
      have H0 := Lib.hid k0
      clear k0
      go_wp2_with fail
      refine (neg_z (17592186043904) (a) _ _ (H0.out) (by omega)).mono ?_
      rintro e w2 ⟨he2, x, rfl, hx⟩
      have HX := Lib.hid hx
      clear hx
      go_wp2_with fail
      exact ⟨rfl, he2, HX.out⟩
    · obtain ⟨k0, k1, k2⟩ := hk
      obtain rfl : u19 = .bool true := k2
      have H0 := Lib.hid k0
      have H1 := Lib.hid k1
      clear k0 k1
      go_wp2_with fail
      refine (cmpAbs_z (17592186043904) (17592186043904) (a) (-(a)) _ _ _ (H0.out) (H1.out.z) (by omega) (by omega)).mono ?_
      rintro e w2 ⟨he2, x, rfl, hx⟩
      obtain rfl : x = .int .i64 0 := hx.trans (by rw [cmpZ_eq (by simp)])
      go_wp2_with fail
      exact ⟨rfl, he2, rfl⟩
    · obtain ⟨k0, k1⟩ := hk
      obtain rfl : u23 = .int .i64 0 := k0
      obtain rfl : u19 = .bool true := k1
      go_wp2_with fail
      exact ⟨rfl, Ext.refl _, by show (_ : Value) = _; (simp); try rfl⟩
    · obtain ⟨k0, k1⟩ := hk
      obtain rfl : u19 = .bool true := k0
      obtain rfl : u24 = .bool true := k1
      go_wp2_with fail
      exact ⟨rfl, Ext.refl _, by show (_ : Value) = _; (first | rfl | simp); try rfl⟩
    · have k0 := hk
      obtain rfl : u25 = .bool true := k0
      go_wp2_with fail
      exact ⟨rfl, Ext.refl _, by show (_ : Value) = _; (first | rfl | simp); try rfl⟩
    · have k0 := hk
      obtain rfl : u26 = .bool true := k0
      have hb := he.block ((Ext.alloc _ _).block (heap_alloc_new _ _))
      have hc0 := blk_cell hb 0
      have hc1 := blk_cell hb 1
      simp at hc0 hc1
      clear hb
      go_wp2_with fail
      exact ⟨rfl, Ext.refl _, HZ0.out.ext (((Ext.alloc _ _).trans (Ext.alloc _ _)).trans he)⟩
    · have k0 := hk
      obtain rfl : u26 = .bool true := k0
      have hb := he.block (heap_second _ _ _)
      have hc0 := blk_cell hb 0
      have hc1 := blk_cell hb 1
      simp at hc0 hc1
      clear hb
      go_wp2_with fail
      exact ⟨rfl, Ext.refl _, HZ1.out.ext (((Ext.alloc _ _).trans (Ext.alloc _ _)).trans he)⟩
    · obtain ⟨k0, k1, k2⟩ := hk
      obtain rfl : u26 = .bool true := k2
      have H0 := Lib.hid k0
      have H1 := Lib.hid k1
      clear k0 k1
      go_wp2_with fail
      refine (cmpAbs_z (17592186043904) (17592186043904) (a) (b) _ _ _ (H0.out) (H1.out) (by omega) (by omega)).mono ?_
      rintro e w2 ⟨he2, x, rfl, hx⟩
      obtain rfl : x = .int .i64 (cmpZ ((a).natAbs : Int) ((b).natAbs : Int)) := hx
      go_wp2_with fail
      exact ⟨rfl, he2, rfl⟩
    · obtain ⟨k0, k1⟩ := hk
      obtain rfl : u29 = .int .i64 (cmpZ ((a).natAbs : Int) ((b).natAbs : Int)) := k0
      obtain rfl : u26 = .bool true := k1
      go_wp2_with fail
      exact ⟨rfl, Ext.refl _, by show (_ : Value) = _; (simp only [cmpZ_zero]; have := HC.out; simp; omega); try rfl⟩
    · have k0 := hk
      obtain rfl : u26 = .bool true := k0
      have hb := he.block ((Ext.alloc _ _).block (heap_alloc_new _ _))
      have hc0 := blk_cell hb 0
      have hc1 := blk_cell hb 1
      simp at hc0 hc1
      clear hb
      go_wp2_with fail
      exact ⟨rfl, Ext.refl _, HZ0.out.ext (((Ext.alloc _ _).trans (Ext.alloc _ _)).trans he)⟩
    · have k0 := hk
      obtain rfl : u26 = .bool true := k0
      have hb := he.block (heap_second _ _ _)
      have hc0 := blk_cell hb 0
      have hc1 := blk_cell hb 1
      simp at hc0 hc1
      clear hb
      go_wp2_with fail
      exact ⟨rfl, Ext.refl _, HZ1.out.ext (((Ext.alloc _ _).trans (Ext.alloc _ _)).trans he)⟩
    · obtain ⟨k0, k1, k2⟩ := hk
      obtain rfl : u26 = .bool true := k2
      have H0 := Lib.hid k0
      have H1 := Lib.hid k1
      clear k0 k1
      go_wp2_with fail
      refine (same_z (17592186043904) (17592186043904) (a) (b) _ _ _ (H0.out) (H1.out) (by omega) (by omega)).mono ?_
      rintro e w2 ⟨he2, x, rfl, hx⟩
      obtain rfl : x = .bool true := hx.trans (by have := HC.out; simp; omega)
      go_wp2_with fail
      exact ⟨rfl, he2, rfl⟩
    · obtain ⟨k0, k1⟩ := hk
      obtain rfl : u33 = .bool true := k0
      obtain rfl : u26 = .bool true := k1
      go_wp2_with fail
      exact ⟨rfl, Ext.refl _, by show (_ : Value) = _; (first | rfl | simp); try rfl⟩
    · have k0 := hk
      obtain rfl : u34 = .bool true := k0
      go_wp2_with fail
      exact ⟨rfl, Ext.refl _, trivial⟩
    · have k0 := hk
      obtain rfl : u34 = .bool true := k0
      go_wp2_with fail
      exact ⟨rfl, Ext.refl _, trivial⟩
    · obtain ⟨k0, k1⟩ := hk
      obtain rfl : u34 = .bool true := k1
      go_wp2_with fail
      exact ⟨rfl, Ext.refl _, trivial⟩
    · obtain ⟨k0, k1⟩ := hk
      obtain rfl : u34 = .bool true := k1
      go_wp2_with fail
      exact ⟨rfl, Ext.refl _, trivial⟩
    · obtain ⟨k0, k1⟩ := hk
      obtain rfl : u34 = .bool true := k1
      go_wp2_with fail
      exact ⟨rfl, Ext.refl _, trivial⟩
    · obtain ⟨k0, k1, k2⟩ := hk
      obtain rfl : u34 = .bool true := k2
      go_wp2_with fail
      exact ⟨rfl, Ext.refl _, trivial⟩
    · obtain ⟨k0, k1, k2⟩ := hk
      obtain rfl : u34 = .bool true := k0
      obtain rfl : u26 = .bool true := k2
      go_wp2_with fail
      exact ⟨rfl, Ext.refl _, by show (_ : Value) = _; (first | rfl | simp); try rfl⟩
    · obtain ⟨k0, k1, k2⟩ := hk
      obtain rfl : u30 = .bool true := k0
      obtain rfl : u41 = .bool true := k1
      obtain rfl : u26 = .bool true := k2
      go_wp2_with fail
      exact ⟨rfl, Ext.refl _, by show (_ : Value) = _; (simp); try rfl⟩
    · obtain ⟨k0, k1⟩ := hk
      obtain rfl : u26 = .bool true := k0
      obtain rfl : u42 = .bool true := k1
      go_wp2_with fail
      exact ⟨rfl, Ext.refl _, by show (_ : Value) = _; (first | rfl | simp); try rfl⟩
  case last =>
    intro w1 he u0 h0 u1 h1 u2 h2 u3 h3 u4 h4 u5 h5 u6 h6 u7 h7 u8 h8 u9 h9 u10 h10 u11 h11 u12 h12 u13 h13 u14 h14 u15 h15 u16 h16 u17 h17 u18 h18 u19 h19 u20 h20 u21 h21 u22 h22 u23 h23 u24 h24 u25 h25 u26 h26 u27 h27 u28 h28 u29 h29 u30 h30 u31 h31 u32 h32 u33 h33 u34 h34 u35 h35 u36 h36 u37 h37 u38 h38 u39 h39 u40 h40 u41 h41 u42 h42 u43 h43
    obtain rfl : u43 = .bool true := h43
    clear h0 h1 h2 h3 h4 h5 h6 h7 h8 h9 h10 h11 h12 h13 h14 h15 h16 h17 h18 h19 h20 h21 h22 h23 h24 h25 h26 h27 h28 h29 h30 h31 h32 h33 h34 h35 h36 h37 h38 h39 h40 h41 h42
    simp only [LastD, Act.put, List.setIfInBounds_toArray, List.set_cons_succ, List.set_cons_zero]
    have HE := Lib.hid (((Ext.alloc _ _).trans (Ext.alloc _ _)).trans he)
    clear he
    go_wp2_with fail
    go_ret
    exact ⟨HE.out, rfl⟩

set_option maxHeartbeats 1000000 in
theorem fnCmpAbs_walk_2 (n0 : Bool) (v0 : Value) (ws0 : List Nat) (n1 : Bool) (v1 : Value) (ws1 : List Nat) (w : World) (hr0 : Rd .u64 w v0 ws0) (hl0 : ws0.length ≤ 17592186043904) (hr1 : Rd .u64 w v1 ws1) (hl1 : ws1.length ≤ 17592186043904) (hc : (ival n0 ws0) = -(ival n1 ws1) ∧ (ival n0 ws0) ≠ (ival n1 ws1)) :
    Calls Try.prog 14 #[.agg #[.bool n0, v0], .agg #[.bool n1, v1]] w (ValR (.bool true) w) := by
  obtain ⟨a0, c0, rfl⟩ := hr0.form
  have hz0 : IsZ 17592186043904 (ival n0 ws0) (.agg #[.bool n0, .slice a0 ws0.length c0]) w := ⟨n0, _, ws0, rfl, hr0, hl0, rfl⟩
  generalize hg0 : ival n0 ws0 = a at hz0
  have HZ0 := Lib.hid hz0
  have HG0 := Lib.hid hg0
  clear hz0 hg0 hr0
  obtain ⟨a1, c1, rfl⟩ := hr1.form
  have hz1 : IsZ 17592186043904 (ival n1 ws1) (.agg #[.bool n1, .slice a1 ws1.length c1]) w := ⟨n1, _, ws1, rfl, hr1, hl1, rfl⟩
  generalize hg1 : ival n1 ws1 = b at hz1
  have HZ1 := Lib.hid hz1
  have HG1 := Lib.hid hg1
  clear hz1 hg1 hr1
  have HC : Hid (a = -b ∧ a ≠ b) := by simp only [HG0.out, HG1.out] at hc; exact hc
  clear hc
  go_enter Try.func14, Try.ntmps14
  go_wp2_with fail
  refine wp_region_D preExt mixed [IsZ (17592186043904) (a), IsZ (17592186043904) (b), Is (.int .i64 (cmpZ ((a).natAbs : Int) ((b).natAbs : Int))), IsZ (17592186043904) (a), IsC (17592186043904) (((a).natAbs : Int)), IsZ (17592186043904) (b), IsC (17592186043904) (((b).natAbs : Int)), Is (.int .i64 (cmpZ (((a).natAbs : Int)) (((b).natAbs : Int)))), Is (.bool true), Is (.bool true), IsZ (17592186043904) (a), IsZ (17592186043904) (b), Is (.int .i64 (cmpZ ((a).natAbs : Int) ((b).natAbs : Int))), IsZ (17592186043904) (a), IsC (17592186043904) (-(a)), IsZ (17592186043904) (b), Is (.int .i64 (cmpZ ((a).natAbs : Int) ((b).natAbs : Int))), Is (.bool true), Is (.bool true), Is (.bool true), IsZ (17592186043904) (a), IsZ (17592186043904) (a), IsC (17592186043904) (-(a)), Is (.int .i64 0), Is (.bool true), Is (.bool true), Is (.bool true), IsZ (17592186043904) (a), IsZ (17592186043904) (b), Is (.int .i64 (cmpZ ((a).natAbs : Int) ((b).natAbs : Int))), Is (.bool true), IsZ (17592186043904) (a), IsZ (17592186043904) (b), Is (.bool false), Is (.bool false), IsZ (17592186043904) (a), IsZ (17592186043904) (b), IsW (17592186043904) (b), IsC (17592186043904) (-(b)), IsW (17592186043904) (-(b)), Is (.bool true), Is (.bool true), Is (.bool true), Is (.bool true)] (by kernel_rfl) ?mono rfl ?steps ?last
  case mono =>
    simp only [List.forall_mem_cons, List.not_mem_nil, false_implies, implies_true, and_true]
    refine ⟨?_, ?_, ?_, ?_, ?_, ?_, ?_, ?_, ?_, ?_, ?_, ?_, ?_, ?_, ?_, ?_, ?_, ?_, ?_, ?_, ?_, ?_, ?_, ?_, ?_, ?_, ?_, ?_, ?_, ?_, ?_, ?_, ?_, ?_, ?_, ?_, ?_, ?_, ?_, ?_, ?_, ?_, ?_, ?_⟩
    all_goals first | exact fun _ _ _ _ q => q | exact fun _ _ _ he q => q.ext he
  case steps =>
    refine ⟨?_, ?_, ?_, ?_, ?_, ?_, ?_, ?_, ?_, ?_, ?_, ?_, ?_, ?_, ?_, ?_, ?_, ?_, ?_, ?_, ?_, ?_, ?_, ?_, ?_, ?_, ?_, ?_, ?_, ?_, ?_, ?_, ?_, ?_, ?_, ?_, ?_, ?_, ?_, ?_, ?_, ?_, ?_, ?_, trivial⟩
    all_goals
      intro u0 u1 u2 u3 u4 u5 u6 u7 u8 u9 u10 u11 u12 u13 u14 u15 u16 u17 u18 u19 u20 u21 u22 u23 u24 u25 u26 u27 u28 u29 u30 u31 u32 u33 u34 u35 u36 u37 u38 u39 u40 u41 u42 u43 u44 w1 he hk
      simp [KnownD, Oper.looksAt, Op.operands, Call.operands, List.findIdx?_cons, Act.put] at hk
      simp only [Act.put, List.setIfInBounds_toArray, List.set_cons_succ, List.set_cons_zero]
    · have hb := he.block ((Ext.alloc _ _).block (heap_alloc_new _ _))
      have hc0 := blk_cell hb 0
      have hc1 := blk_cell hb 1
      simp at hc0 hc1
      clear hb
      go_wp2_with fail
      exact ⟨rfl, Ext.refl _, HZ0.out.ext (((Ext.alloc _ _).trans (Ext.alloc _ _)).trans he)⟩
    · have hb := he.block (heap_second _ _ _)
      have hc0 := blk_cell hb 0
      have hc1 := blk_cell hb 1
      simp at hc0 hc1
      clear hb
      go_wp2_with fail
      exact ⟨rfl, Ext.refl _, HZ1.out.ext (((Ext.alloc _ _).trans (Ext.alloc _ _)).trans he)⟩
    · obtain ⟨k0, k1⟩ := hk
      have H0 := Lib.hid k0
      have H1 := Lib.hid k1
      clear k0 k1
      go_wp2_with fail
      refine (cmpAbs_z (17592186043904) (17592186043904) (a) (b) _ _ _ (H0.out) (H1.out) (by omega) (by omega)).mono ?_
      rintro e w2 ⟨he2, x, rfl, hx⟩
      obtain rfl : x = .int .i64 (cmpZ ((a).natAbs : Int) ((b).natAbs : Int)) := hx
      go_wp2_with fail
      exact ⟨rfl, he2, rfl⟩
    · have hb := he.block ((Ext.alloc _ _).block (heap_alloc_new _ _))
      have hc0 := blk_cell hb 0
      have hc1 := blk_cell hb 1
      simp at hc0 hc1
      clear hb
      go_wp2_with fail
      exact ⟨rfl, Ext.refl _, HZ0.out.ext (((Ext.alloc _ _).trans (Ext.alloc _ _)).trans he)⟩
    · have k0 := hk
      have H0 := Lib.hid k0
      clear k0
      go_wp2_with fail
      refine (abs_z (17592186043904) (a) _ _ (H0.out) (by omega)).mono ?_
      rintro e w2 ⟨he2, x, rfl, hx⟩
      have HX := Lib.hid hx
      clear hx
      go_wp2_with fail
      exact ⟨rfl, he2, HX.out⟩
    · have hb := he.block (heap_second _ _ _)
      have hc0 := blk_cell hb 0
      have hc1 := blk_cell hb 1
      simp at hc0 hc1
      clear hb
      go_wp2_with fail
      exact ⟨rfl, Ext.refl _, HZ1.out.ext (((Ext.alloc _ _).trans (Ext.alloc _ _)).trans he)⟩
    · have k0 := hk
      have H0 := Lib.hid k0
      clear k0
      go_wp2_with fail
      refine (abs_z (17592186043904) (b) _ _ (H0.out) (by omega)).mono ?_
      rintro e w2 ⟨he2, x, rfl, hx⟩
      have HX := Lib.hid hx
      clear hx
      go_wp2_with fail
      exact ⟨rfl, he2, HX.out⟩
    · obtain ⟨k0, k1⟩ := hk
      have H0 := Lib.hid k0
      have H1 := Lib.hid k1
      clear k0 k1
      go_wp2_with fail
      refine (compare_z (17592186043904) (17592186043904) (((a).natAbs : Int)) (((b).natAbs : Int)) _ _ _ (H0.out.z) (H1.out.z) (by omega) (by omega)).mono ?_
      rintro e w2 ⟨he2, x, rfl, hx⟩
      obtain rfl : x = .int .i64 (cmpZ (((a).natAbs : Int)) (((b).natAbs : Int))) := hx
      go_wp2_with fail
      exact ⟨rfl, he2, rfl⟩
    · obtain ⟨k0, k1⟩ := hk
      obtain rfl : u2 = .int .i64 (cmpZ ((a).natAbs : Int) ((b).natAbs : Int)) := k0
      obtain rfl : u7 = .int .i64 (cmpZ (((a).natAbs : Int)) (((b).natAbs : Int))) := k1
      go_wp2_with fail
      exact ⟨rfl, Ext.refl _, by show (_ : Value) = _; (simp); try rfl⟩
    · have k0 := hk
      obtain rfl : u8 = .bool true := k0
      go_wp2_with fail
      exact ⟨rfl, Ext.refl _, by show (_ : Value) = _; (first | rfl | simp); try rfl⟩
    · have k0 := hk
      obtain rfl : u9 = .bool true := k0
      have hb := he.block ((Ext.alloc _ _).block (heap_alloc_new _ _))
      have hc0 := blk_cell hb 0
      have hc1 := blk_cell hb 1
      simp at hc0 hc1
      clear hb
      go_wp2_with fail
      exact ⟨rfl, Ext.refl _, HZ0.out.ext (((Ext.alloc _ _).trans (Ext.alloc _ _)).trans he)⟩
    · have k0 := hk
      obtain rfl : u9 = .bool true := k0
      have hb := he.block (heap_second _ _ _)
      have hc0 := blk_cell hb 0
      have hc1 := blk_cell hb 1
      simp at hc0 hc1
      clear hb
      go_wp2_with fail
      exact ⟨rfl, Ext.refl _, HZ1.out.ext (((Ext.alloc _ _).trans (Ext.alloc _ _)).trans he)⟩
    · obtain ⟨k0, k1, k2⟩ := hk
      obtain rfl : u9 = .bool true := k2
      have H0 := Lib.hid k0
      have H1 := Lib.hid k1
      clear k0 k1
      go_wp2_with fail
      refine (cmpAbs_z (17592186043904) (17592186043904) (a) (b) _ _ _ (H0.out) (H1.out) (by omega) (by omega)).mono ?_
      rintro e w2 ⟨he2, x, rfl, hx⟩
      obtain rfl : x = .int .i64 (cmpZ ((a).natAbs : Int) ((b).natAbs : Int)) := hx
      go_wp2_with fail
      exact ⟨rfl, he2, rfl⟩
    · have k0 := hk
      obtain rfl : u9 = .bool true := k0
      have hb := he.block ((Ext.alloc _ _).block (heap_alloc_new _ _))
      have hc0 := blk_cell hb 0
      have hc1 := blk_cell hb 1
      simp at hc0 hc1
      clear hb
      go_wp2_with fail
      exact ⟨rfl, Ext.refl _, HZ0.out.ext (((Ext.alloc _ _).trans (Ext.alloc _ _)).trans he)⟩
    · obtain ⟨k0, k1⟩ := hk
      obtain rfl : u9 = .bool true := k1
      have H0 := Lib.hid k0
      clear k0
      go_wp2_with fail
      refine (neg_z (17592186043904) (a) _ _ (H0.out) (by omega)).mono ?_
      rintro e w2 ⟨he2, x, rfl, hx⟩
      have HX := Lib.hid hx
      clear hx
      go_wp2_with fail
      exact ⟨rfl, he2, HX.out⟩
    · have k0 := hk
      obtain rfl : u9 = .bool true := k0
      have hb := he.block (heap_second _ _ _)
      have hc0 := blk_cell hb 0
      have hc1 := blk_cell hb 1
      simp at hc0 hc1
      clear hb
      go_wp2_with fail
      exact ⟨rfl, Ext.refl _, HZ1.out.ext (((Ext.alloc _ _).trans (Ext.alloc _ _)).trans he)⟩
    · obtain ⟨k0, k1, k2⟩ := hk
      obtain rfl : u9 = .bool true := k2
      have H0 := Lib.hid k0
      have H1 := Lib.hid k1
      clear k0 k1
      go_wp2_with fail
      refine (cmpAbs_z (17592186043904) (17592186043904) (-(a)) (b) _ _ _ (H0.out.z) (H1.out) (by omega) (by omega)).mono ?_
      rintro e w2 ⟨he2, x, rfl, hx⟩
      obtain rfl : x = .int .i64 (cmpZ ((a).natAbs : Int) ((b).natAbs : Int)) := hx.trans (by simp only [Int.natAbs_neg])
      go_wp2_with fail
      exact ⟨rfl, he2, rfl⟩
    · obtain ⟨k0, k1, k2⟩ := hk
      obtain rfl : u12 = .int .i64 (cmpZ ((a).natAbs : Int) ((b).natAbs : Int)) := k0
      obtain rfl : u16 = .int .i64 (cmpZ ((a).natAbs : Int) ((b).natAbs : Int)) := k1
      obtain rfl : u9 = .bool true := k2
      go_wp2_with fail
      exact ⟨rfl, Ext.refl _, by show (_ : Value) = _; (simp); try rfl⟩
    · obtain ⟨k0, k1⟩ := hk
      obtain rfl : u9 = .bool true := k0
      obtain rfl : u17 = .bool true := k1
      go_wp2_with fail
      exact ⟨rfl, Ext.refl _, by show (_ : Value) = _; (first | rfl | simp); try rfl⟩
    · have k0 := hk
      obtain rfl : u18 = .bool true := k0
      go_wp2_with fail
      exact ⟨rfl, Ext.refl _, by show (_ : Value) = _; (first | rfl | simp); try rfl⟩
    · have k0 := hk
      obtain rfl : u19 = .bool true := k0
      have hb := he.block ((Ext.alloc _ _).block (heap_alloc_new _ _))
      have hc0 := blk_cell hb 0
      have hc1 := blk_cell hb 1
      simp at hc0 hc1
      clear hb
      go_wp2_with fail
      exact ⟨rfl, Ext.refl _, HZ0.out.ext (((Ext.alloc _ _).trans (Ext.alloc _ _)).trans he)⟩
    · have k0 := hk
      obtain rfl : u19 = .bool true := k0
      have hb := he.block ((Ext.alloc _ _).block (heap_alloc_new _ _))
      have hc0 := blk_cell hb 0
      have hc1 := blk_cell hb 1
      simp at hc0 hc1
      clear hb
      go_wp2_with fail
      exact ⟨rfl, Ext.refl _, HZ0.out.ext (((Ext.alloc _ _).trans (Ext.alloc _ _)).trans he)⟩
    · obtain ⟨k0, k1⟩ := hk
      obtain rfl : u19 = .bool true := k1
      have H0 := Lib.hid k0
      clear k0
      go_wp2_with fail
      refine (neg_z (17592186043904) (a) _ _ (H0.out) (by omega)).mono ?_
      rintro e w2 ⟨he2, x, rfl, hx⟩
      have HX := Lib.hid hx
      clear hx
      go_wp2_with fail
      exact ⟨rfl, he2, HX.out⟩
    · obtain ⟨k0, k1, k2⟩ := hk
      obtain rfl : u19 = .bool true := k2
      have H0 := Lib.hid k0
      have H1 := Lib.hid k1
      clear k0 k1
      go_wp2_with fail
      refine (cmpAbs_z (17592186043904) (17592186043904) (a) (-(a)) _ _ _ (H0.out) (H1.out.z) (by omega) (by omega)).mono ?_
      rintro e w2 ⟨he2, x, rfl, hx⟩
      obtain rfl : x = .int .i64 0 := hx.trans (by rw [cmpZ_eq (by simp)])
      go_wp2_with fail
      exact ⟨rfl, he2, rfl⟩
    · obtain ⟨k0, k1⟩ := hk
      obtain rfl : u23 = .int .i64 0 := k0
      obtain rfl : u19 = .bool true := k1
      go_wp2_with fail
      exact ⟨rfl, Ext.refl _, by show (_ : Value) = _; (simp); try rfl⟩
    · obtain ⟨k0, k1⟩ := hk
      obtain rfl : u19 = .bool true := k0
      obtain rfl : u24 = .bool true := k1
      go_wp2_with fail
      exact ⟨rfl, Ext.refl _, by show (_ : Value) = _; (first | rfl | simp); try rfl⟩
    · have k0 := hk
      obtain rfl : u25 = .bool true := k0
      go_wp2_with fail
      exact ⟨rfl, Ext.refl _, by show (_ : Value) = _; (first | rfl | simp); try rfl⟩
    · have k0 := hk
      obtain rfl : u26 = .bool true := k0
      have hb := he.block ((Ext.alloc _ _).block (heap_alloc_new _ _))
      have hc0 := blk_cell hb 0
      have hc1 := blk_cell hb 1
      simp at hc0 hc1
      clear hb
      go_wp2_with fail
      exact ⟨rfl, Ext.refl _, HZ0.out.ext (((Ext.alloc _ _).trans (Ext.alloc _ _)).trans he)⟩
    · have k0 := hk
      obtain rfl : u26 = .bool true := k0
      have hb := he.block (heap_second _ _ _)
      have hc0 := blk_cell hb 0
      have hc1 := blk_cell hb 1
      simp at hc0 hc1
      clear hb
      go_wp2_with fail
      exact ⟨rfl, Ext.refl _, HZ1.out.ext (((Ext.alloc _ _).trans (Ext.alloc _ _)).trans he)⟩
    · obtain ⟨k0, k1, k2⟩ := hk
      obtain rfl : u26 = .bool true := k2
      have H0 := Lib.hid k0
      have H1 := Lib.hid k1
      clear k0 k1
      go_wp2_with fail
      refine (cmpAbs_z (17592186043904) (17592186043904) (a) (b) _ _ _ (H0.out) (H1.out) (by omega) (by omega)).mono ?_
      rintro e w2 ⟨he2, x, rfl, hx⟩
      obtain rfl : x = .int .i64 (cmpZ ((a).natAbs : Int) ((b).natAbs : Int)) := hx
      go_wp2_with fail
      exact ⟨rfl, he2, rfl⟩
    · obtain ⟨k0, k1⟩ := hk
      obtain rfl : u29 = .int .i64 (cmpZ ((a).natAbs : Int) ((b).natAbs : Int)) := k0
      obtain rfl : u26 = .bool true := k1
      go_wp2_with fail
      exact ⟨rfl, Ext.refl _, by show (_ : Value) = _; (simp only [cmpZ_zero]; have := HC.out; simp; omega); try rfl⟩
    · have k0 := hk
      obtain rfl : u26 = .bool true := k0
      have hb := he.block ((Ext.alloc _ _).block (heap_alloc_new _ _))
      have hc0 := blk_cell hb 0
      have hc1 := blk_cell hb 1
      simp at hc0 hc1
      clear hb
      go_wp2_with fail
      exact ⟨rfl, Ext.refl _, HZ0.out.ext (((Ext.alloc _ _).trans (Ext.alloc _ _)).trans he)⟩
    · have k0 := hk
      obtain rfl : u26 = .bool true := k0
      have hb := he.block (heap_second _ _ _)
      have hc0 := blk_cell hb 0
      have hc1 := blk_cell hb 1
      simp at hc0 hc1
      clear hb
      go_wp2_with fail
      exact ⟨rfl, Ext.refl _, HZ1.out.ext (((Ext.alloc _ _).trans (Ext.alloc _ _)).trans he)⟩
    · obtain ⟨k0, k1, k2⟩ := hk
      obtain rfl : u26 = .bool true := k2
      have H0 := Lib.hid k0
      have H1 := Lib.hid k1
      clear k0 k1
      go_wp2_with fail
      refine (same_z (17592186043904) (17592186043904) (a) (b) _ _ _ (H0.out) (H1.out) (by omega) (by omega)).mono ?_
      rintro e w2 ⟨he2, x, rfl, hx⟩
      obtain rfl : x = .bool false := hx.trans (by have := HC.out; simp; omega)
      go_wp2_with fail
      exact ⟨rfl, he2, rfl⟩
    · obtain ⟨k0, k1⟩ := hk
      obtain rfl : u33 = .bool false := k0
      obtain rfl : u26 = .bool true := k1
      go_wp2_with fail
      exact ⟨rfl, Ext.refl _, by show (_ : Value) = _; (first | rfl | simp); try rfl⟩
    · have k0 := hk
      obtain rfl : u34 = .bool false := k0
      have hb := he.block ((Ext.alloc _ _).block (heap_alloc_new _ _))
      have hc0 := blk_cell hb 0
      have hc1 := blk_cell hb 1
      simp at hc0 hc1
      clear hb
      go_wp2_with fail
      exact ⟨rfl, Ext.refl _, HZ0.out.ext (((Ext.alloc _ _).trans (Ext.alloc _ _)).trans he)⟩
    · have k0 := hk
      obtain rfl : u34 = .bool false := k0
      have hb := he.block (heap_second _ _ _)
      have hc0 := blk_cell hb 0
      have hc1 := blk_cell hb 1
      simp at hc0 hc1
      clear hb
      go_wp2_with fail
      exact ⟨rfl, Ext.refl _, HZ1.out.ext (((Ext.alloc _ _).trans (Ext.alloc _ _)).trans he)⟩
    · obtain ⟨k0, k1⟩ := hk
      obtain rfl : u34 = .bool false := k1
      have H0 := Lib.hid k0
      clear k0
      go_wp2_with fail
      refine (toSpec_z (17592186043904) (b) _ _ (H0.out) (by omega)).mono ?_
      rintro e w2 ⟨he2, x, rfl, hx⟩
      have HX := Lib.hid hx
      clear hx
      go_wp2_with fail
      exact ⟨rfl, he2, HX.out⟩
    · obtain ⟨k0, k1⟩ := hk
      obtain rfl : u34 = .bool false := k1
      have H0 := Lib.hid k0
      clear k0
      go_wp2_with fail
      refine (specNeg_z (17592186043904) (b) _ _ (H0.out.z) (by omega)).mono ?_
      rintro e w2 ⟨he2, x, rfl, hx⟩
      have HX := Lib.hid hx
      clear hx
      go_wp2_with fail
      exact ⟨rfl, he2, HX.out⟩
    · obtain ⟨k0, k1⟩ := hk
      obtain rfl : u34 = .bool false := k1
      have H0 := Lib.hid k0
      clear k0
      go_wp2_with fail
      refine (fromSpec_z (17592186043904) (-(b)) _ _ (H0.out.w)).mono ?_
      rintro e w2 ⟨he2, x, rfl, hx⟩
      have HX := Lib.hid hx
      clear hx
      go_wp2_with fail
      exact ⟨rfl, he2, HX.out⟩
    · obtain ⟨k0, k1, k2⟩ := hk
      obtain rfl : u34 = .bool false := k2
      have H0 := Lib.hid k0
      have H1 := Lib.hid k1
      clear k0 k1
      go_wp2_with fail
      refine (same_z (17592186043904) (17592186043904) (a) (-(b)) _ _ _ (H0.out) (H1.out.z) (by omega) (by omega)).mono ?_
      rintro e w2 ⟨he2, x, rfl, hx⟩
      obtain rfl : x = .bool true := hx.trans (by have := HC.out; simp; omega)
      go_wp2_with fail
      exact ⟨rfl, he2, rfl⟩
    · obtain ⟨k0, k1, k2⟩ := hk
      obtain rfl : u34 = .bool false := k0
      obtain rfl : u40 = .bool true := k1
      obtain rfl : u26 = .bool true := k2
      go_wp2_with fail
      exact ⟨rfl, Ext.refl _, by show (_ : Value) = _; (first | rfl | simp); try rfl⟩
    · obtain ⟨k0, k1, k2⟩ := hk
      obtain rfl : u30 = .bool true := k0
      obtain rfl : u41 = .bool true := k1
      obtain rfl : u26 = .bool true := k2
      go_wp2_with fail
      exact ⟨rfl, Ext.refl _, by show (_ : Value) = _; (simp); try rfl⟩
    · obtain ⟨k0, k1⟩ := hk
      obtain rfl : u26 = .bool true := k0
      obtain rfl : u42 = .bool true := k1
      go_wp2_with fail
      exact ⟨rfl, Ext.refl _, by show (_ : Value) = _; (first | rfl | simp); try rfl⟩
  case last =>
    intro w1 he u0 h0 u1 h1 u2 h2 u3 h3 u4 h4 u5 h5 u6 h6 u7 h7 u8 h8 u9 h9 u10 h10 u11 h11 u12 h12 u13 h13 u14 h14 u15 h15 u16 h16 u17 h17 u18 h18 u19 h19 u20 h20 u21 h21 u22 h22 u23 h23 u24 h24 u25 h25 u26 h26 u27 h27 u28 h28 u29 h29 u30 h30 u31 h31 u32 h32 u33 h33 u34 h34 u35 h35 u36 h36 u37 h37 u38 h38 u39 h39 u40 h40 u41 h41 u42 h42 u43 h43
    obtain rfl : u43 = .bool true := h43
    clear h0 h1 h2 h3 h4 h5 h6 h7 h8 h9 h10 h11 h12 h13 h14 h15 h16 h17 h18 h19 h20 h21 h22 h23 h24 h25 h26 h27 h28 h29 h30 h31 h32 h33 h34 h35 h36 h37 h38 h39 h40 h41 h42
    simp only [LastD, Act.put, List.setIfInBounds_toArray, List.set_cons_succ, List.set_cons_zero]
    have HE := Lib.hid (((Ext.alloc _ _).trans (Ext.alloc _ _)).trans he)
    clear he
    go_wp2_with fail
    go_ret
    exact ⟨HE.out, rfl⟩

set_option maxHeartbeats 1000000 in
theorem fnCmpAbs_walk_3 (n0 : Bool) (v0 : Value) (ws0 : List Nat) (n1 : Bool) (v1 : Value) (ws1 : List Nat) (w : World) (hr0 : Rd .u64 w v0 ws0) (hl0 : ws0.length ≤ 17592186043904) (hr1 : Rd .u64 w v1 ws1) (hl1 : ws1.length ≤ 17592186043904) (hc : (ival n0 ws0) ≠ (ival n1 ws1) ∧ (ival n0 ws0) ≠ -(ival n1 ws1)) :
    Calls Try.prog 14 #[.agg #[.bool n0, v0], .agg #[.bool n1, v1]] w (ValR (.bool true) w) := by
  obtain ⟨a0, c0, rfl⟩ := hr0.form
  have hz0 : IsZ 17592186043904 (ival n0 ws0) (.agg #[.bool n0, .slice a0 ws0.length c0]) w := ⟨n0, _, ws0, rfl, hr0, hl0, rfl⟩
  generalize hg0 : ival n0 ws0 = a at hz0
  have HZ0 := Lib.hid hz0
  have HG0 := Lib.hid hg0
  clear hz0 hg0 hr0
  obtain ⟨a1, c1, rfl⟩ := hr1.form
  have hz1 : IsZ 17592186043904 (ival n1 ws1) (.agg #[.bool n1, .slice a1 ws1.length c1]) w := ⟨n1, _, ws1, rfl, hr1, hl1, rfl⟩
  generalize hg1 : ival n1 ws1 = b at hz1
  have HZ1 := Lib.hid hz1
  have HG1 := Lib.hid hg1
  clear hz1 hg1 hr1
  have HC : Hid (a ≠ b ∧ a ≠ -b) := by simp only [HG0.out, HG1.out] at hc; exact hc
  clear hc
  go_enter Try.func14, Try.ntmps14
  go_wp2_with fail
  refine wp_region_D preExt mixed [IsZ (17592186043904) (a), IsZ (17592186043904) (b), Is (.int .i64 (cmpZ ((a).natAbs : Int) ((b).natAbs : Int))), IsZ (17592186043904) (a), IsC (17592186043904) (((a).natAbs : Int)), IsZ (17592186043904) (b), IsC (17592186043904) (((b).natAbs : Int)), Is (.int .i64 (cmpZ (((a).natAbs : Int)) (((b).natAbs : Int)))), Is (.bool true), Is (.bool true), IsZ (17592186043904) (a), IsZ (17592186043904) (b), Is (.int .i64 (cmpZ ((a).natAbs : Int) ((b).natAbs : Int))), IsZ (17592186043904) (a), IsC (17592186043904) (-(a)), IsZ (17592186043904) (b), Is (.int .i64 (cmpZ ((a).natAbs : Int) ((b).natAbs : Int))), Is (.bool true), Is (.bool true), Is (.bool true), IsZ (17592186043904) (a), IsZ (17592186043904) (a), IsC (17592186043904) (-(a)), Is (.int .i64 0), Is (.bool true), Is (.bool true), Is (.bool true), IsZ (17592186043904) (a), IsZ (17592186043904) (b), Is (.int .i64 (cmpZ ((a).natAbs : Int) ((b).natAbs : Int))), Is (.bool false), IsZ (17592186043904) (a), IsZ (17592186043904) (b), Is (.bool false), Is (.bool false), IsZ (17592186043904) (a), IsZ (17592186043904) (b), IsW (17592186043904) (b), IsC (17592186043904) (-(b)), IsW (17592186043904) (-(b)), Is (.bool false), Is (.bool false), Is (.bool true), Is (.bool true)] (by kernel_rfl) ?mono rfl ?steps ?last
  case mono =>
    simp only [List.forall_mem_cons, List.not_mem_nil, false_implies, implies_true, and_true]
    refine ⟨?_, ?_, ?_, ?_, ?_, ?_, ?_, ?_, ?_, ?_, ?_, ?_, ?_, ?_, ?_, ?_, ?_, ?_, ?_, ?_, ?_, ?_, ?_, ?_, ?_, ?_, ?_, ?_, ?_, ?_, ?_, ?_, ?_, ?_, ?_, ?_, ?_, ?_, ?_, ?_, ?_, ?_, ?_, ?_⟩
    all_goals first | exact fun _ _ _ _ q => q | exact fun _ _ _ he q => q.ext he
  case steps =>
    refine ⟨?_, ?_, ?_, ?_, ?_, ?_, ?_, ?_, ?_, ?_, ?_, ?_, ?_, ?_, ?_, ?_, ?_, ?_, ?_, ?_, ?_, ?_, ?_, ?_, ?_, ?_, ?_, ?_, ?_, ?_, ?_, ?_, ?_, ?_, ?_, ?_, ?_, ?_, ?_, ?_, ?_, ?_, ?_, ?_, trivial⟩
    all_goals
      intro u0 u1 u2 u3 u4 u5 u6 u7 u8 u9 u10 u11 u12 u13 u14 u15 u16 u17 u18 u19 u20 u21 u22 u23 u24 u25 u26 u27 u28 u29 u30 u31 u32 u33 u34 u35 u36 u37 u38 u39 u40 u41 u42 u43 u44 w1 he hk
      simp [KnownD, Oper.looksAt, Op.operands, Call.operands, List.findIdx?_cons, Act.put] at hk
      simp only [Act.put, List.setIfInBounds_toArray, List.set_cons_succ, List.set_cons_zero]
    · have hb := he.block ((Ext.alloc _ _).block (heap_alloc_new _ _))
      have hc0 := blk_cell hb 0
      have hc1 := blk_cell hb 1
      simp at hc0 hc1
      clear hb
      go_wp2_with fail
      exact ⟨rfl, Ext.refl _, HZ0.out.ext (((Ext.alloc _ _).trans (Ext.alloc _ _)).trans he)⟩
    · have hb := he.block (heap_second _ _ _)
      have hc0 := blk_cell hb 0
      have hc1 := blk_cell hb 1
      simp at hc0 hc1
      clear hb
      go_wp2_with fail
      exact ⟨rfl, Ext.refl _, HZ1.out.ext (((Ext.alloc _ _).trans (Ext.alloc _ _)).trans he)⟩
    · obtain ⟨k0, k1⟩ := hk
      have H0 := Lib.hid k0
      have H1 := Lib.hid k1
      clear k0 k1
      go_wp2_with fail
      refine (cmpAbs_z (17592186043904) (17592186043904) (a) (b) _ _ _ (H0.out) (H1.out) (by omega) (by omega)).mono ?_
      rintro e w2 ⟨he2, x, rfl, hx⟩
      obtain rfl : x = .int .i64 (cmpZ ((a).natAbs : Int) ((b).natAbs : Int)) := hx
      go_wp2_with fail
      exact ⟨rfl, he2, rfl⟩
    · have hb := he.block ((Ext.alloc _ _).block (heap_alloc_new _ _))
      have hc0 := blk_cell hb 0
      have hc1 := blk_cell hb 1
      simp at hc0 hc1
      clear hb
      go_wp2_with fail
      exact ⟨rfl, Ext.refl _, HZ0.out.ext (((Ext.alloc _ _).trans (Ext.alloc _ _)).trans he)⟩
    · have k0 := hk
      have H0 := Lib.hid k0
      clear k0
      go_wp2_with fail
      refine (abs_z (17592186043904) (a) _ _ (H0.out) (by omega)).mono ?_
      rintro e w2 ⟨he2, x, rfl, hx⟩
      have HX := Lib.hid hx
      clear hx
      go_wp2_with fail
      exact ⟨rfl, he2, HX.out⟩
    · have hb := he.block (heap_second _ _ _)
      have hc0 := blk_cell hb 0
      have hc1 := blk_cell hb 1
      simp at hc0 hc1
      clear hb
      go_wp2_with fail
      exact ⟨rfl, Ext.refl _, HZ1.out.ext (((Ext.alloc _ _).trans (Ext.alloc _ _)).trans he)⟩
    · have k0 := hk
      have H0 := Lib.hid k0
      clear k0
      go_wp2_with fail
      refine (abs_z (17592186043904) (b) _ _ (H0.out) (by omega)).mono ?_
      rintro e w2 ⟨he2, x, rfl, hx⟩
      have HX := Lib.hid hx
      clear hx
      go_wp2_with fail
      exact ⟨rfl, he2, HX.out⟩
    · obtain ⟨k0, k1⟩ := hk
      have H0 := Lib.hid k0
      have H1 := Lib.hid k1
      clear k0 k1
      go_wp2_with fail
      refine (compare_z (17592186043904) (17592186043904) (((a).natAbs : Int)) (((b).natAbs : Int)) _ _ _ (H0.out.z) (H1.out.z) (by omega) (by omega)).mono ?_
      rintro e w2 ⟨he2, x, rfl, hx⟩
      obtain rfl : x = .int .i64 (cmpZ (((a).natAbs : Int)) (((b).natAbs : Int))) := hx
      go_wp2_with fail
      exact ⟨rfl, he2, rfl⟩
    · obtain ⟨k0, k1⟩ := hk
      obtain rfl : u2 = .int .i64 (cmpZ ((a).natAbs : Int) ((b).natAbs : Int)) := k0
      obtain rfl : u7 = .int .i64 (cmpZ (((a).natAbs : Int)) (((b).natAbs : Int))) := k1
      go_wp2_with fail
      exact ⟨rfl, Ext.refl _, by show (_ : Value) = _; (simp); try rfl⟩
    · have k0 := hk
      obtain rfl : u8 = .bool true := k0
      go_wp2_with fail
      exact ⟨rfl, Ext.refl _, by show (_ : Value) = _; (first | rfl | simp); try rfl⟩
    · have k0 := hk
      obtain rfl : u9 = .bool true := k0
      have hb := he.block ((Ext.alloc _ _).block (heap_alloc_new _ _))
      have hc0 := blk_cell hb 0
      have hc1 := blk_cell hb 1
      simp at hc0 hc1
      clear hb
      go_wp2_with fail
      exact ⟨rfl, Ext.refl _, HZ0.out.ext (((Ext.alloc _ _).trans (Ext.alloc _ _)).trans he)⟩
    · have k0 := hk
      obtain rfl : u9 = .bool true := k0
      have hb := he.block (heap_second _ _ _)
      have hc0 := blk_cell hb 0
      have hc1 := blk_cell hb 1
      simp at hc0 hc1
      clear hb
      go_wp2_with fail
      exact ⟨rfl, Ext.refl _, HZ1.out.ext (((Ext.alloc _ _).trans (Ext.alloc _ _)).trans he)⟩
    · obtain ⟨k0, k1, k2⟩ := hk
      obtain rfl : u9 = .bool true := k2
      have H0 := Lib.hid k0
      have H1 := Lib.hid k1
      clear k0 k1
      go_wp2_with fail
      refine (cmpAbs_z (17592186043904) (17592186043904) (a) (b) _ _ _ (H0.out) (H1.out) (by omega) (by omega)).mono ?_
      rintro e w2 ⟨he2, x, rfl, hx⟩
      obtain rfl : x = .int .i64 (cmpZ ((a).natAbs : Int) ((b).natAbs : Int)) := hx
      go_wp2_with fail
      exact ⟨rfl, he2, rfl⟩
    · have k0 := hk
      obtain rfl : u9 = .bool true := k0
      have hb := he.block ((Ext.alloc _ _).block (heap_alloc_new _ _))
      have hc0 := blk_cell hb 0
      have hc1 := blk_cell hb 1
      simp at hc0 hc1
      clear hb
      go_wp2_with fail
      exact ⟨rfl, Ext.refl _, HZ0.out.ext (((Ext.alloc _ _).trans (Ext.alloc _ _)).trans he)⟩
    · obtain ⟨k0, k1⟩ := hk
      obtain rfl : u9 = .bool true := k1
      have H0 := Lib.hid k0
      clear k0
      go_wp2_with fail
      refine (neg_z (17592186043904) (a) _ _ (H0.out) (by omega)).mono ?_
      rintro e w2 ⟨he2, x, rfl, hx⟩
      have HX := Lib.hid hx
      clear hx
      go_wp2_with fail
      exact ⟨rfl, he2, HX.out⟩
    · have k0 := hk
      obtain rfl : u9 = .bool true := k0
      have hb := he.block (heap_second _ _ _)
      have hc0 := blk_cell hb 0
      have hc1 := blk_cell hb 1
      simp at hc0 hc1
      clear hb
      go_wp2_with fail
      exact ⟨rfl, Ext.refl _, HZ1.out.ext (((Ext.alloc _ _).trans (Ext.alloc _ _)).trans he)⟩
    · obtain ⟨k0, k1, k2⟩ := hk
      obtain rfl : u9 = .bool true := k2
      have H0 := Lib.hid k0
      have H1 := Lib.hid k1
      clear k0 k1
      go_wp2_with fail
      refine (cmpAbs_z (17592186043904) (17592186043904) (-(a)) (b) _ _ _ (H0.out.z) (H1.out) (by omega) (by omega)).mono ?_
      rintro e w2 ⟨he2, x, rfl, hx⟩
      obtain rfl : x = .int .i64 (cmpZ ((a).natAbs : Int) ((b).natAbs : Int)) := hx.trans (by simp only [Int.natAbs_neg])
      go_wp2_with fail
      exact ⟨rfl, he2, rfl⟩
    · obtain ⟨k0, k1, k2⟩ := hk
      obtain rfl : u12 = .int .i64 (cmpZ ((a).natAbs : Int) ((b).natAbs : Int)) := k0
      obtain rfl : u16 = .int .i64 (cmpZ ((a).natAbs : Int) ((b).natAbs : Int)) := k1
      obtain rfl : u9 = .bool true := k2
      go_wp2_with fail
      exact ⟨rfl, Ext.refl _, by show (_ : Value) = _; (simp); try rfl⟩
    · obtain ⟨k0, k1⟩ := hk
      obtain rfl : u9 = .bool true := k0
      obtain rfl : u17 = .bool true := k1
      go_wp2_with fail
      exact ⟨rfl, Ext.refl _, by show (_ : Value) = _; (first | rfl | simp); try rfl⟩
    · have k0 := hk
      obtain rfl : u18 = .bool true := k0
      go_wp2_with fail
      exact ⟨rfl, Ext.refl _, by show (_ : Value) = _; (first | rfl | simp); try rfl⟩
    · have k0 := hk
      obtain rfl : u19 = .bool true := k0
      have hb := he.block ((Ext.alloc _ _).block (heap_alloc_new _ _))
      have hc0 := blk_cell hb 0
      have hc1 := blk_cell hb 1
      simp at hc0 hc1
      clear hb
      go_wp2_with fail
      exact ⟨rfl, Ext.refl _, HZ0.out.ext (((Ext.alloc _ _).trans (Ext.alloc _ _)).trans he)⟩
    · have k0 := hk
      obtain rfl : u19 = .bool true := k0
      have hb := he.block ((Ext.alloc _ _).block (heap_alloc_new _ _))
      have hc0 := blk_cell hb 0
      have hc1 := blk_cell hb 1
      simp at hc0 hc1
      clear hb
      go_wp2_with fail
      exact ⟨rfl, Ext.refl _, HZ0.out.ext (((Ext.alloc _ _).trans (Ext.alloc _ _)).trans he)⟩
    · obtain ⟨k0, k1⟩ := hk
      obtain rfl : u19 = .bool true := k1
      have H0 := Lib.hid k0
      clear k0
      go_wp2_with fail
      refine (neg_z (17592186043904) (a) _ _ (H0.out) (by omega)).mono ?_
      rintro e w2 ⟨he2, x, rfl, hx⟩
      have HX := Lib.hid hx
      clear hx
      go_wp2_with fail
      exact ⟨rfl, he2, HX.out⟩
    · obtain ⟨k0, k1, k2⟩ := hk
      obtain rfl : u19 = .bool true := k2
      have H0 := Lib.hid k0
      have H1 := Lib.hid k1
      clear k0 k1
      go_wp2_with fail
      refine (cmpAbs_z (17592186043904) (17592186043904) (a) (-(a)) _ _ _ (H0.out) (H1.out.z) (by omega) (by omega)).mono ?_
      rintro e w2 ⟨he2, x, rfl, hx⟩
      obtain rfl : x = .int .i64 0 := hx.trans (by rw [cmpZ_eq (by simp)])
      go_wp2_with fail
      exact ⟨rfl, he2, rfl⟩
    · obtain ⟨k0, k1⟩ := hk
      obtain rfl : u23 = .int .i64 0 := k0
      obtain rfl : u19 = .bool true := k1
      go_wp2_with fail
      exact ⟨rfl, Ext.refl _, by show (_ : Value) = _; (simp); try rfl⟩
    · obtain ⟨k0, k1⟩ := hk
      obtain rfl : u19 = .bool true := k0
      obtain rfl : u24 = .bool true := k1
      go_wp2_with fail
      exact ⟨rfl, Ext.refl _, by show (_ : Value) = _; (first | rfl | simp); try rfl⟩
    · have k0 := hk
      obtain rfl : u25 = .bool true := k0
      go_wp2_with fail
      exact ⟨rfl, Ext.refl _, by show (_ : Value) = _; (first | rfl | simp); try rfl⟩
    · have k0 := hk
      obtain rfl : u26 = .bool true := k0
      have hb := he.block ((Ext.alloc _ _).block (heap_alloc_new _ _))
      have hc0 := blk_cell hb 0
      have hc1 := blk_cell hb 1
      simp at hc0 hc1
      clear hb
      go_wp2_with fail
      exact ⟨rfl, Ext.refl _, HZ0.out.ext (((Ext.alloc _ _).trans (Ext.alloc _ _)).trans he)⟩
    · have k0 := hk
      obtain rfl : u26 = .bool true := k0
      have hb := he.block (heap_second _ _ _)
      have hc0 := blk_cell hb 0
      have hc1 := blk_cell hb 1
      simp at hc0 hc1
      clear hb
      go_wp2_with fail
      exact ⟨rfl, Ext.refl _, HZ1.out.ext (((Ext.alloc _ _).trans (Ext.alloc _ _)).trans he)⟩
    · obtain ⟨k0, k1, k2⟩ := hk
      obtain rfl : u26 = .bool true := k2
      have H0 := Lib.hid k0
      have H1 := Lib.hid k1
      clear k0 k1
      go_wp2_with fail
      refine (cmpAbs_z (17592186043904) (17592186043904) (a) (b) _ _ _ (H0.out) (H1.out) (by omega) (by omega)).mono ?_
      rintro e w2 ⟨he2, x, rfl, hx⟩
      obtain rfl : x = .int .i64 (cmpZ ((a).natAbs : Int) ((b).natAbs : Int)) := hx
      go_wp2_with fail
      exact ⟨rfl, he2, rfl⟩
    · obtain ⟨k0, k1⟩ := hk
      obtain rfl : u29 = .int .i64 (cmpZ ((a).natAbs : Int) ((b).natAbs : Int)) := k0
      obtain rfl : u26 = .bool true := k1
      go_wp2_with fail
      exact ⟨rfl, Ext.refl _, by show (_ : Value) = _; (simp only [cmpZ_zero]; have := HC.out; simp; omega); try rfl⟩
    · have k0 := hk
      obtain rfl : u26 = .bool true := k0
      have hb := he.block ((Ext.alloc _ _).block (heap_alloc_new _ _))
      have hc0 := blk_cell hb 0
      have hc1 := blk_cell hb 1
      simp at hc0 hc1
      clear hb
      go_wp2_with fail
      exact ⟨rfl, Ext.refl _, HZ0.out.ext (((Ext.alloc _ _).trans (Ext.alloc _ _)).trans he)⟩
    · have k0 := hk
      obtain rfl : u26 = .bool true := k0
      have hb := he.block (heap_second _ _ _)
      have hc0 := blk_cell hb 0
      have hc1 := blk_cell hb 1
      simp at hc0 hc1
      clear hb
      go_wp2_with fail
      exact ⟨rfl, Ext.refl _, HZ1.out.ext (((Ext.alloc _ _).trans (Ext.alloc _ _)).trans he)⟩
    · obtain ⟨k0, k1, k2⟩ := hk
      obtain rfl : u26 = .bool true := k2
      have H0 := Lib.hid k0
      have H1 := Lib.hid k1
      clear k0 k1
      go_wp2_with fail
      refine (same_z (17592186043904) (17592186043904) (a) (b) _ _ _ (H0.out) (H1.out) (by omega) (by omega)).mono ?_
      rintro e w2 ⟨he2, x, rfl, hx⟩
      obtain rfl : x = .bool false := hx.trans (by have := HC.out; simp; omega)
      go_wp2_with fail
      exact ⟨rfl, he2, rfl⟩
    · obtain ⟨k0, k1⟩ := hk
      obtain rfl : u33 = .bool false := k0
      obtain rfl : u26 = .bool true := k1
      go_wp2_with fail
      exact ⟨rfl, Ext.refl _, by show (_ : Value) = _; (first | rfl | simp); try rfl⟩
    · have k0 := hk
      obtain rfl : u34 = .bool false := k0
      have hb := he.block ((Ext.alloc _ _).block (heap_alloc_new _ _))
      have hc0 := blk_cell hb 0
      have hc1 := blk_cell hb 1
      simp at hc0 hc1
      clear hb
      go_wp2_with fail
      exact ⟨rfl, Ext.refl _, HZ0.out.ext (((Ext.alloc _ _).trans (Ext.alloc _ _)).trans he)⟩
    · have k0 := hk
      obtain rfl : u34 = .bool false := k0
      have hb := he.block (heap_second _ _ _)
      have hc0 := blk_cell hb 0
      have hc1 := blk_cell hb 1
      simp at hc0 hc1
      clear hb
      go_wp2_with fail
      exact ⟨rfl, Ext.refl _, HZ1.out.ext (((Ext.alloc _ _).trans (Ext.alloc _ _)).trans he)⟩
    · obtain ⟨k0, k1⟩ := hk
      obtain rfl : u34 = .bool false := k1
      have H0 := Lib.hid k0
      clear k0
      go_wp2_with fail
      refine (toSpec_z (17592186043904) (b) _ _ (H0.out) (by omega)).mono ?_
      rintro e w2 ⟨he2, x, rfl, hx⟩
      have HX := Lib.hid hx
      clear hx
      go_wp2_with fail
      exact ⟨rfl, he2, HX.out⟩
    · obtain ⟨k0, k1⟩ := hk
      obtain rfl : u34 = .bool false := k1
      have H0 := Lib.hid k0
      clear k0
      go_wp2_with fail
      refine (specNeg_z (17592186043904) (b) _ _ (H0.out.z) (by omega)).mono ?_
      rintro e w2 ⟨he2, x, rfl, hx⟩
      have HX := Lib.hid hx
      clear hx
      go_wp2_with fail
      exact ⟨rfl, he2, HX.out⟩
    · obtain ⟨k0, k1⟩ := hk
      obtain rfl : u34 = .bool false := k1
      have H0 := Lib.hid k0
      clear k0
      go_wp2_with fail
      refine (fromSpec_z (17592186043904) (-(b)) _ _ (H0.out.w)).mono ?_
      rintro e w2 ⟨he2, x, rfl, hx⟩
      have HX := Lib.hid hx
      clear hx
      go_wp2_with fail
      exact ⟨rfl, he2, HX.out⟩
    · obtain ⟨k0, k1, k2⟩ := hk
      obtain rfl : u34 = .bool false := k2
      have H0 := Lib.hid k0
      have H1 := Lib.hid k1
      clear k0 k1
      go_wp2_with fail
      refine (same_z (17592186043904) (17592186043904) (a) (-(b)) _ _ _ (H0.out) (H1.out.z) (by omega) (by omega)).mono ?_
      rintro e w2 ⟨he2, x, rfl, hx⟩
      obtain rfl : x = .bool false := hx.trans (by have := HC.out; simp; omega)
      go_wp2_with fail
      exact ⟨rfl, he2, rfl⟩
    · obtain ⟨k0, k1, k2⟩ := hk
      obtain rfl : u34 = .bool false := k0
      obtain rfl : u40 = .bool false := k1
      obtain rfl : u26 = .bool true := k2
      go_wp2_with fail
      exact ⟨rfl, Ext.refl _, by show (_ : Value) = _; (first | rfl | simp); try rfl⟩
    · obtain ⟨k0, k1, k2⟩ := hk
      obtain rfl : u30 = .bool false := k0
      obtain rfl : u41 = .bool false := k1
      obtain rfl : u26 = .bool true := k2
      go_wp2_with fail
      exact ⟨rfl, Ext.refl _, by show (_ : Value) = _; (simp); try rfl⟩
    · obtain ⟨k0, k1⟩ := hk
      obtain rfl : u26 = .bool true := k0
      obtain rfl : u42 = .bool true := k1
      go_wp2_with fail
      exact ⟨rfl, Ext.refl _, by show (_ : Value) = _; (first | rfl | simp); try rfl⟩
  case last =>
    intro w1 he u0 h0 u1 h1 u2 h2 u3 h3 u4 h4 u5 h5 u6 h6 u7 h7 u8 h8 u9 h9 u10 h10 u11 h11 u12 h12 u13 h13 u14 h14 u15 h15 u16 h16 u17 h17 u18 h18 u19 h19 u20 h20 u21 h21 u22 h22 u23 h23 u24 h24 u25 h25 u26 h26 u27 h27 u28 h28 u29 h29 u30 h30 u31 h31 u32 h32 u33 h33 u34 h34 u35 h35 u36 h36 u37 h37 u38 h38 u39 h39 u40 h40 u41 h41 u42 h42 u43 h43
    obtain rfl : u43 = .bool true := h43
    clear h0 h1 h2 h3 h4 h5 h6 h7 h8 h9 h10 h11 h12 h13 h14 h15 h16 h17 h18 h19 h20 h21 h22 h23 h24 h25 h26 h27 h28 h29 h30 h31 h32 h33 h34 h35 h36 h37 h38 h39 h40 h41 h42
    simp only [LastD, Act.put, List.setIfInBounds_toArray, List.set_cons_succ, List.set_cons_zero]
    have HE := Lib.hid (((Ext.alloc _ _).trans (Ext.alloc _ _)).trans he)
    clear he
    go_wp2_with fail
    go_ret
    exact ⟨HE.out, rfl⟩

theorem fnCmpAbs_walk (n0 : Bool) (v0 : Value) (ws0 : List Nat) (n1 : Bool) (v1 : Value) (ws1 : List Nat) (w : World) (hr0 : Rd .u64 w v0 ws0) (hl0 : ws0.length ≤ 17592186043904) (hr1 : Rd .u64 w v1 ws1) (hl1 : ws1.length ≤ 17592186043904) :
    Calls Try.prog 14 #[.agg #[.bool n0, v0], .agg #[.bool n1, v1]] w (ValR (.bool true) w) := by
  by_cases h1 : (ival n0 ws0) = (ival n1 ws1)
  · exact fnCmpAbs_walk_1 n0 v0 ws0 n1 v1 ws1 w hr0 hl0 hr1 hl1 h1
  · by_cases h2 : (ival n0 ws0) = -(ival n1 ws1)
    · exact fnCmpAbs_walk_2 n0 v0 ws0 n1 v1 ws1 w hr0 hl0 hr1 hl1 ⟨h2, h1⟩
    · exact fnCmpAbs_walk_3 n0 v0 ws0 n1 v1 ws1 w hr0 hl0 hr1 hl1 ⟨h1, h2⟩

end Go.Proofs.Ytgeddjobgokfaaa

