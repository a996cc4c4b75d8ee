/- FnUint64Sum (printed by lawgen.py). -/
import Derived.Test.YtdfknmplpjmemaaAddZ
import Derived.Test.YtdfknmplpjmemaaLshZ
import Derived.Test.YtdfknmplpjmemaaHelpers
set_option linter.unusedSimpArgs false
set_option linter.unusedVariables false
namespace Go.Proofs.Ytdfknmplpjmemaa
open Go.RowKit

set_option maxHeartbeats 1000000 in
theorem fnUint64Sum_y  (x : Nat) (y : Nat) (w : World)  (hx : x < 18446744073709551616) (hy : y < 18446744073709551616) (hc : x + y < 18446744073709551616) :
    Calls Try.prog 4 #[.int .u64 (x : Nat), .int .u64 (y : Nat)] w (ValR (.bool true) w) := by
  have Hx := Lib.hid hx
  have Hy := Lib.hid hy
  have Hc := Lib.hid hc
  have hy2 : y ≤ 18446744073709551615 := by omega
  have b1 : decide ((x : Int) ≤ 18446744073709551615 - (y : Int)) = true := by simp; omega
  have hsum : x + y < 18446744073709551616 := hc
  have b2 : (x : Int) ≤ 18446744073709551615 - (y : Int) := by omega
  clear hc
  go_enter Try.func4, Try.ntmps4
  go_wp2_with fail
  refine (setUint_z x _ Hx.out).mono ?_
  rintro e w1 ⟨he, y1, rfl, hy⟩
  have HE := Lib.hid he
  clear he
  have HY1 := Lib.hid hy
  clear hy
  obtain ⟨m1, aa1, ll1, cc1, rfl⟩ := HY1.out.form
  go_wp2_with fail
  refine (setUint_z y _ Hy.out).mono ?_
  rintro e w2 ⟨he, y2, rfl, hy⟩
  replace HY1 := Lib.hid (HY1.out.ext he)
  replace HE := Lib.hid (HE.out.trans he)
  clear he
  have HY2 := Lib.hid hy
  clear hy
  obtain ⟨m2, aa2, ll2, cc2, rfl⟩ := HY2.out.form
  go_wp2_with fail
  refine (add_z (1) ((x : Int)) ((y : Int)) _ _ _ ((HY1.out.z).mono (by omega)) ((HY2.out.z).mono (by omega)) (by omega)).mono ?_
  rintro e w3 ⟨he, y3, rfl, hy⟩
  replace HY1 := Lib.hid (HY1.out.ext he)
  replace HY2 := Lib.hid (HY2.out.ext he)
  replace HE := Lib.hid (HE.out.trans he)
  clear he
  have HY3 := Lib.hid hy
  clear hy
  obtain ⟨m3, aa3, ll3, cc3, rfl⟩ := HY3.out.form
  go_wp2_with fail
  refine (isUint_z (2) (((x : Int)) + ((y : Int))) _ _ ((HY3.out.ext (Ext.alloc _ _)).z) (by omega)).mono ?_
  rintro e w4 ⟨he, y4, rfl, hy⟩
  replace HY1 := Lib.hid (HY1.out.ext ((Ext.alloc _ _).trans he))
  replace HY2 := Lib.hid (HY2.out.ext ((Ext.alloc _ _).trans he))
  replace HY3 := Lib.hid (HY3.out.ext ((Ext.alloc _ _).trans he))
  replace HE := Lib.hid (HE.out.trans ((Ext.alloc _ _).trans he))
  have hb := he.block (heap_alloc_new _ _)
  have cv50 := blk_cell hb 0
  have cv51 := blk_cell hb 1
  simp at cv50 cv51
  clear hb
  clear he
  obtain rfl : y4 = .bool true := hy.trans (by have := Hc.out; simp [isU]; omega)
  have cv50' := fun o => (Ext.alloc w4 o).cell cv50
  have cv51' := fun o => (Ext.alloc w4 o).cell cv51
  go_wp2_with fail
  refine (toImpl_z (2) (((x : Int)) + ((y : Int))) _ _ (HY3.out.z) (by omega)).mono ?_
  rintro e w5 ⟨he, y5, rfl, hy⟩
  clear cv50' cv51'
  replace HY1 := Lib.hid (HY1.out.ext he)
  replace HY2 := Lib.hid (HY2.out.ext he)
  replace HY3 := Lib.hid (HY3.out.ext he)
  replace HE := Lib.hid (HE.out.trans he)
  replace cv50 := he.cell cv50
  replace cv51 := he.cell cv51
  clear he
  have HY5 := Lib.hid hy
  clear hy
  obtain ⟨m5, aa5, ll5, cc5, rfl⟩ := HY5.out.form
  have cv50' := fun o => (Ext.alloc w5 o).cell cv50
  have cv51' := fun o => (Ext.alloc w5 o).cell cv51
  go_wp2_with fail
  refine (implUint64_z (2) (((x : Int)) + ((y : Int))) _ _ (HY5.out.z) (by omega)).mono ?_
  rintro e w6 ⟨he, y6, rfl, hy⟩
  clear cv50' cv51'
  replace HY1 := Lib.hid (HY1.out.ext he)
  replace HY2 := Lib.hid (HY2.out.ext he)
  replace HY3 := Lib.hid (HY3.out.ext he)
  replace HY5 := Lib.hid (HY5.out.ext he)
  replace HE := Lib.hid (HE.out.trans he)
  replace cv50 := he.cell cv50
  replace cv51 := he.cell cv51
  clear he
  obtain rfl : y6 = .int .u64 (x + y : Nat) := hy.trans (by rw [show low ((x : Int) + (y : Int)) = ((x + y : Nat) : Int) by have := Hc.out; simp [low]; omega])
  have cv50' := fun o => (Ext.alloc w6 o).cell cv50
  have cv51' := fun o => (Ext.alloc w6 o).cell cv51
  go_wp2_with fail
  go_ret
  exact ⟨HE.out, rfl⟩

set_option maxHeartbeats 1000000 in
theorem fnUint64Sum_n  (x : Nat) (y : Nat) (w : World)  (hx : x < 18446744073709551616) (hy : y < 18446744073709551616) (hc : ¬ x + y < 18446744073709551616) :
    Calls Try.prog 4 #[.int .u64 (x : Nat), .int .u64 (y : Nat)] w (ValR (.bool true) w) := by
  have Hx := Lib.hid hx
  have Hy := Lib.hid hy
  have Hc := Lib.hid hc
  have hy2 : y ≤ 18446744073709551615 := by omega
  have b1 : decide ((x : Int) ≤ 18446744073709551615 - (y : Int)) = false := by simp; omega
  have b2 : ¬ ((x : Int) ≤ 18446744073709551615 - (y : Int)) := by omega
  clear hc
  go_enter Try.func4, Try.ntmps4
  go_wp2_with fail
  refine (setUint_z x _ Hx.out).mono ?_
  rintro e w1 ⟨he, y1, rfl, hy⟩
  have HE := Lib.hid he
  clear he
  have HY1 := Lib.hid hy
  clear hy
  obtain ⟨m1, aa1, ll1, cc1, rfl⟩ := HY1.out.form
  go_wp2_with fail
  refine (setUint_z y _ Hy.out).mono ?_
  rintro e w2 ⟨he, y2, rfl, hy⟩
  replace HY1 := Lib.hid (HY1.out.ext he)
  replace HE := Lib.hid (HE.out.trans he)
  clear he
  have HY2 := Lib.hid hy
  clear hy
  obtain ⟨m2, aa2, ll2, cc2, rfl⟩ := HY2.out.form
  go_wp2_with fail
  refine (add_z (1) ((x : Int)) ((y : Int)) _ _ _ ((HY1.out.z).mono (by omega)) ((HY2.out.z).mono (by omega)) (by omega)).mono ?_
  rintro e w3 ⟨he, y3, rfl, hy⟩
  replace HY1 := Lib.hid (HY1.out.ext he)
  replace HY2 := Lib.hid (HY2.out.ext he)
  replace HE := Lib.hid (HE.out.trans he)
  clear he
  have HY3 := Lib.hid hy
  clear hy
  obtain ⟨m3, aa3, ll3, cc3, rfl⟩ := HY3.out.form
  go_wp2_with fail
  refine (isUint_z (2) (((x : Int)) + ((y : Int))) _ _ ((HY3.out.ext (Ext.alloc _ _)).z) (by omega)).mono ?_
  rintro e w4 ⟨he, y4, rfl, hy⟩
  replace HY1 := Lib.hid (HY1.out.ext ((Ext.alloc _ _).trans he))
  replace HY2 := Lib.hid (HY2.out.ext ((Ext.alloc _ _).trans he))
  replace HY3 := Lib.hid (HY3.out.ext ((Ext.alloc _ _).trans he))
  replace HE := Lib.hid (HE.out.trans ((Ext.alloc _ _).trans he))
  have hb := he.block (heap_alloc_new _ _)
  have cv50 := blk_cell hb 0
  have cv51 := blk_cell hb 1
  simp at cv50 cv51
  clear hb
  clear he
  obtain rfl : y4 = .bool false := hy.trans (by have := Hc.out; simp [isU]; omega)
  have cv50' := fun o => (Ext.alloc w4 o).cell cv50
  have cv51' := fun o => (Ext.alloc w4 o).cell cv51
  go_wp2_with fail
  go_ret
  exact ⟨HE.out, rfl⟩

theorem fnUint64Sum_walk (x y : Int) (w : World) (hx : (Lit.int .u64 x).wf = true) (hy : (Lit.int .u64 y).wf = true) :
    Calls Try.prog 4 #[.int .u64 x, .int .u64 y] w (ValR (.bool true) w) := by
  obtain ⟨a, rfl, ha⟩ := u64_nat hx
  obtain ⟨b, rfl, hb⟩ := u64_nat hy
  by_cases h : a + b < 18446744073709551616
  · exact fnUint64Sum_y a b w ha hb h
  · exact fnUint64Sum_n a b w ha hb h

end Go.Proofs.Ytdfknmplpjmemaa

