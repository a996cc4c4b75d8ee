/- FnInt64Round, FnInt64Order, FnSigns (printed by lawgen.py). -/
import Derived.Test.YtgeddjobgokfaaaOf
import Derived.Test.YtgeddjobgokfaaaLaw5
set_option linter.unusedSimpArgs false
set_option linter.unusedVariables false
namespace Go.Proofs.Ytgeddjobgokfaaa
open Go.RowKit

set_option maxHeartbeats 1000000 in
theorem fnInt64Round_m  (n : Int) (w : World)  (h1 : -9223372036854775808 ≤ n) (h2 : n < 9223372036854775808) (hc : n = -9223372036854775808) :
    Calls Try.prog 10 #[.int .i64 n] w (ValR (.bool true) w) := by
  have H1 := Lib.hid h1
  have H2 := Lib.hid h2
  have Hc := Lib.hid hc
  have HI_n : Hid (isI n = true) := by refine Lib.hid ?_; simp [isI]; omega
  have b1 : decide (n < 0) = true := by simp; omega
  have b2 : (n == 0) = false := by simp; omega
  have b3 : (n == -9223372036854775808) = true := by simp; omega
  have b4 : decide (0 ≤ n) = false := by simp; omega
  clear h1 h2 hc

  go_enter Try.func10, Try.ntmps10
  go_wp2_with fail
  refine (of_z (n) _ H1.out H2.out).mono ?_
  rintro e w1 ⟨he, y1, rfl, hy⟩
  have HE := Lib.hid he
  clear he
  have HY1 := Lib.hid hy
  clear hy
  obtain ⟨m1, aa1, ll1, cc1, rfl⟩ := HY1.out.form
  go_wp2_with fail
  refine (isInt_z (1) (n) _ _ ((HY1.out.ext (Ext.alloc _ _)).z) (by omega)).mono ?_
  rintro e w2 ⟨he, y2, rfl, hy⟩
  replace HY1 := Lib.hid (HY1.out.ext ((Ext.alloc _ _).trans he))
  replace HE := Lib.hid (HE.out.trans ((Ext.alloc _ _).trans he))
  have hb := he.block (heap_alloc_new _ _)
  have cv30 := blk_cell hb 0
  have cv31 := blk_cell hb 1
  simp at cv30 cv31
  clear hb
  clear he
  obtain rfl : y2 = .bool true := hy.trans (by rw [HI_n.out])
  have cv30' := fun o => (Ext.alloc w2 o).cell cv30
  have cv31' := fun o => (Ext.alloc w2 o).cell cv31
  go_wp2_with fail
  refine (toImpl_z (1) (n) _ _ (HY1.out.z) (by omega)).mono ?_
  rintro e w3 ⟨he, y3, rfl, hy⟩
  clear cv30' cv31'
  replace HY1 := Lib.hid (HY1.out.ext he)
  replace HE := Lib.hid (HE.out.trans he)
  replace cv30 := he.cell cv30
  replace cv31 := he.cell cv31
  clear he
  have HY3 := Lib.hid hy
  clear hy
  obtain ⟨m3, aa3, ll3, cc3, rfl⟩ := HY3.out.form
  have cv30' := fun o => (Ext.alloc w3 o).cell cv30
  have cv31' := fun o => (Ext.alloc w3 o).cell cv31
  go_wp2_with fail
  refine (implInt64_z (1) (n) _ _ (HY3.out.z) (by omega) (HI_n.out)).mono ?_
  rintro e w4 ⟨he, y4, rfl, hy⟩
  clear cv30' cv31'
  replace HY1 := Lib.hid (HY1.out.ext he)
  replace HY3 := Lib.hid (HY3.out.ext he)
  replace HE := Lib.hid (HE.out.trans he)
  replace cv30 := he.cell cv30
  replace cv31 := he.cell cv31
  clear he
  obtain rfl : y4 = .int .i64 (n) := hy
  have cv30' := fun o => (Ext.alloc w4 o).cell cv30
  have cv31' := fun o => (Ext.alloc w4 o).cell cv31
  go_wp2_with fail
  refine (neg_z (1) (n) _ _ (HY1.out.z) (by omega)).mono ?_
  rintro e w5 ⟨he, y5, rfl, hy⟩
  clear cv30' cv31'
  replace HY1 := Lib.hid (HY1.out.ext he)
  replace HY3 := Lib.hid (HY3.out.ext he)
  replace HE := Lib.hid (HE.out.trans he)
  replace cv30 := he.cell cv30
  replace cv31 := he.cell cv31
  clear he
  have HY5 := Lib.hid hy
  clear hy
  obtain ⟨m5, aa5, ll5, cc5, rfl⟩ := HY5.out.form
  have cv30' := fun o => (Ext.alloc w5 o).cell cv30
  have cv31' := fun o => (Ext.alloc w5 o).cell cv31
  go_wp2_with fail
  refine (isInt_z (1) (-(n)) _ _ (HY5.out.z) (by omega)).mono ?_
  rintro e w6 ⟨he, y6, rfl, hy⟩
  clear cv30' cv31'
  replace HY1 := Lib.hid (HY1.out.ext he)
  replace HY3 := Lib.hid (HY3.out.ext he)
  replace HY5 := Lib.hid (HY5.out.ext he)
  replace HE := Lib.hid (HE.out.trans he)
  replace cv30 := he.cell cv30
  replace cv31 := he.cell cv31
  clear he
  obtain rfl : y6 = .bool false := hy.trans (by have := H1.out; have := H2.out; have := Hc.out; simp [isI]; omega)
  have cv30' := fun o => (Ext.alloc w6 o).cell cv30
  have cv31' := fun o => (Ext.alloc w6 o).cell cv31
  go_wp2_with fail
  refine (sign_z (1) (n) _ _ (HY1.out.z) (by omega)).mono ?_
  rintro e w7 ⟨he, y7, rfl, hy⟩
  clear cv30' cv31'
  replace HY1 := Lib.hid (HY1.out.ext he)
  replace HY3 := Lib.hid (HY3.out.ext he)
  replace HY5 := Lib.hid (HY5.out.ext he)
  replace HE := Lib.hid (HE.out.trans he)
  replace cv30 := he.cell cv30
  replace cv31 := he.cell cv31
  clear he
  obtain rfl : y7 = .int .i64 (-1) := hy.trans (by have := H1.out; have := H2.out; have := Hc.out; rw [show sgnZ n = (-1) by unfold sgnZ; split <;> (try split) <;> omega])
  have cv30' := fun o => (Ext.alloc w7 o).cell cv30
  have cv31' := fun o => (Ext.alloc w7 o).cell cv31
  go_wp2_with fail
  refine (sign_z (1) (n) _ _ (HY1.out.z) (by omega)).mono ?_
  rintro e w8 ⟨he, y8, rfl, hy⟩
  clear cv30' cv31'
  replace HY1 := Lib.hid (HY1.out.ext he)
  replace HY3 := Lib.hid (HY3.out.ext he)
  replace HY5 := Lib.hid (HY5.out.ext he)
  replace HE := Lib.hid (HE.out.trans he)
  replace cv30 := he.cell cv30
  replace cv31 := he.cell cv31
  clear he
  obtain rfl : y8 = .int .i64 (-1) := hy.trans (by have := H1.out; have := H2.out; have := Hc.out; rw [show sgnZ n = (-1) by unfold sgnZ; split <;> (try split) <;> omega])
  have cv30' := fun o => (Ext.alloc w8 o).cell cv30
  have cv31' := fun o => (Ext.alloc w8 o).cell cv31
  go_wp2_with fail
  refine (isUint_z (1) (n) _ _ (HY1.out.z) (by omega)).mono ?_
  rintro e w9 ⟨he, y9, rfl, hy⟩
  clear cv30' cv31'
  replace HY1 := Lib.hid (HY1.out.ext he)
  replace HY3 := Lib.hid (HY3.out.ext he)
  replace HY5 := Lib.hid (HY5.out.ext he)
  replace HE := Lib.hid (HE.out.trans he)
  replace cv30 := he.cell cv30
  replace cv31 := he.cell cv31
  clear he
  obtain rfl : y9 = .bool false := hy.trans (by have := H1.out; have := H2.out; have := Hc.out; simp [isU]; omega)
  have cv30' := fun o => (Ext.alloc w9 o).cell cv30
  have cv31' := fun o => (Ext.alloc w9 o).cell cv31
  go_wp2_with fail
  go_ret
  exact ⟨HE.out, rfl⟩

set_option maxHeartbeats 1000000 in
theorem fnInt64Round_n  (n : Int) (w : World)  (h1 : -9223372036854775808 ≤ n) (h2 : n < 9223372036854775808) (hc : -9223372036854775808 < n ∧ n < 0) :
    Calls Try.prog 10 #[.int .i64 n] w (ValR (.bool true) w) := by
  have H1 := Lib.hid h1
  have H2 := Lib.hid h2
  have Hc := Lib.hid hc
  have HI_n : Hid (isI n = true) := by refine Lib.hid ?_; simp [isI]; omega
  have b1 : decide (n < 0) = true := by simp; omega
  have b2 : (n == 0) = false := by simp; omega
  have b3 : (n == -9223372036854775808) = false := by simp; omega
  have b4 : decide (0 ≤ n) = false := by simp; omega
  have b5 : (n != -9223372036854775808) = true := by simp; omega
  have b6 : ¬ n = -9223372036854775808 := by omega
  clear h1 h2 hc

  go_enter Try.func10, Try.ntmps10
  go_wp2_with fail
  refine (of_z (n) _ H1.out H2.out).mono ?_
  rintro e w1 ⟨he, y1, rfl, hy⟩
  have HE := Lib.hid he
  clear he
  have HY1 := Lib.hid hy
  clear hy
  obtain ⟨m1, aa1, ll1, cc1, rfl⟩ := HY1.out.form
  go_wp2_with fail
  refine (isInt_z (1) (n) _ _ ((HY1.out.ext (Ext.alloc _ _)).z) (by omega)).mono ?_
  rintro e w2 ⟨he, y2, rfl, hy⟩
  replace HY1 := Lib.hid (HY1.out.ext ((Ext.alloc _ _).trans he))
  replace HE := Lib.hid (HE.out.trans ((Ext.alloc _ _).trans he))
  have hb := he.block (heap_alloc_new _ _)
  have cv30 := blk_cell hb 0
  have cv31 := blk_cell hb 1
  simp at cv30 cv31
  clear hb
  clear he
  obtain rfl : y2 = .bool true := hy.trans (by rw [HI_n.out])
  have cv30' := fun o => (Ext.alloc w2 o).cell cv30
  have cv31' := fun o => (Ext.alloc w2 o).cell cv31
  go_wp2_with fail
  refine (toImpl_z (1) (n) _ _ (HY1.out.z) (by omega)).mono ?_
  rintro e w3 ⟨he, y3, rfl, hy⟩
  clear cv30' cv31'
  replace HY1 := Lib.hid (HY1.out.ext he)
  replace HE := Lib.hid (HE.out.trans he)
  replace cv30 := he.cell cv30
  replace cv31 := he.cell cv31
  clear he
  have HY3 := Lib.hid hy
  clear hy
  obtain ⟨m3, aa3, ll3, cc3, rfl⟩ := HY3.out.form
  have cv30' := fun o => (Ext.alloc w3 o).cell cv30
  have cv31' := fun o => (Ext.alloc w3 o).cell cv31
  go_wp2_with fail
  refine (implInt64_z (1) (n) _ _ (HY3.out.z) (by omega) (HI_n.out)).mono ?_
  rintro e w4 ⟨he, y4, rfl, hy⟩
  clear cv30' cv31'
  replace HY1 := Lib.hid (HY1.out.ext he)
  replace HY3 := Lib.hid (HY3.out.ext he)
  replace HE := Lib.hid (HE.out.trans he)
  replace cv30 := he.cell cv30
  replace cv31 := he.cell cv31
  clear he
  obtain rfl : y4 = .int .i64 (n) := hy
  have cv30' := fun o => (Ext.alloc w4 o).cell cv30
  have cv31' := fun o => (Ext.alloc w4 o).cell cv31
  go_wp2_with fail
  refine (neg_z (1) (n) _ _ (HY1.out.z) (by omega)).mono ?_
  rintro e w5 ⟨he, y5, rfl, hy⟩
  clear cv30' cv31'
  replace HY1 := Lib.hid (HY1.out.ext he)
  replace HY3 := Lib.hid (HY3.out.ext he)
  replace HE := Lib.hid (HE.out.trans he)
  replace cv30 := he.cell cv30
  replace cv31 := he.cell cv31
  clear he
  have HY5 := Lib.hid hy
  clear hy
  obtain ⟨m5, aa5, ll5, cc5, rfl⟩ := HY5.out.form
  have cv30' := fun o => (Ext.alloc w5 o).cell cv30
  have cv31' := fun o => (Ext.alloc w5 o).cell cv31
  go_wp2_with fail
  refine (isInt_z (1) (-(n)) _ _ (HY5.out.z) (by omega)).mono ?_
  rintro e w6 ⟨he, y6, rfl, hy⟩
  clear cv30' cv31'
  replace HY1 := Lib.hid (HY1.out.ext he)
  replace HY3 := Lib.hid (HY3.out.ext he)
  replace HY5 := Lib.hid (HY5.out.ext he)
  replace HE := Lib.hid (HE.out.trans he)
  replace cv30 := he.cell cv30
  replace cv31 := he.cell cv31
  clear he
  obtain rfl : y6 = .bool true := hy.trans (by have := H1.out; have := H2.out; have := Hc.out; simp [isI]; omega)
  have cv30' := fun o => (Ext.alloc w6 o).cell cv30
  have cv31' := fun o => (Ext.alloc w6 o).cell cv31
  go_wp2_with fail
  refine (sign_z (1) (n) _ _ (HY1.out.z) (by omega)).mono ?_
  rintro e w7 ⟨he, y7, rfl, hy⟩
  clear cv30' cv31'
  replace HY1 := Lib.hid (HY1.out.ext he)
  replace HY3 := Lib.hid (HY3.out.ext he)
  replace HY5 := Lib.hid (HY5.out.ext he)
  replace HE := Lib.hid (HE.out.trans he)
  replace cv30 := he.cell cv30
  replace cv31 := he.cell cv31
  clear he
  obtain rfl : y7 = .int .i64 (-1) := hy.trans (by have := H1.out; have := H2.out; have := Hc.out; rw [show sgnZ n = (-1) by unfold sgnZ; split <;> (try split) <;> omega])
  have cv30' := fun o => (Ext.alloc w7 o).cell cv30
  have cv31' := fun o => (Ext.alloc w7 o).cell cv31
  go_wp2_with fail
  refine (sign_z (1) (n) _ _ (HY1.out.z) (by omega)).mono ?_
  rintro e w8 ⟨he, y8, rfl, hy⟩
  clear cv30' cv31'
  replace HY1 := Lib.hid (HY1.out.ext he)
  replace HY3 := Lib.hid (HY3.out.ext he)
  replace HY5 := Lib.hid (HY5.out.ext he)
  replace HE := Lib.hid (HE.out.trans he)
  replace cv30 := he.cell cv30
  replace cv31 := he.cell cv31
  clear he
  obtain rfl : y8 = .int .i64 (-1) := hy.trans (by have := H1.out; have := H2.out; have := Hc.out; rw [show sgnZ n = (-1) by unfold sgnZ; split <;> (try split) <;> omega])
  have cv30' := fun o => (Ext.alloc w8 o).cell cv30
  have cv31' := fun o => (Ext.alloc w8 o).cell cv31
  go_wp2_with fail
  refine (isUint_z (1) (n) _ _ (HY1.out.z) (by omega)).mono ?_
  rintro e w9 ⟨he, y9, rfl, hy⟩
  clear cv30' cv31'
  replace HY1 := Lib.hid (HY1.out.ext he)
  replace HY3 := Lib.hid (HY3.out.ext he)
  replace HY5 := Lib.hid (HY5.out.ext he)
  replace HE := Lib.hid (HE.out.trans he)
  replace cv30 := he.cell cv30
  replace cv31 := he.cell cv31
  clear he
  obtain rfl : y9 = .bool false := hy.trans (by have := H1.out; have := H2.out; have := Hc.out; simp [isU]; omega)
  have cv30' := fun o => (Ext.alloc w9 o).cell cv30
  have cv31' := fun o => (Ext.alloc w9 o).cell cv31
  go_wp2_with fail
  go_ret
  exact ⟨HE.out, rfl⟩

set_option maxHeartbeats 1000000 in
theorem fnInt64Round_z  (n : Int) (w : World)  (h1 : -9223372036854775808 ≤ n) (h2 : n < 9223372036854775808) (hc : n = 0) :
    Calls Try.prog 10 #[.int .i64 n] w (ValR (.bool true) w) := by
  have H1 := Lib.hid h1
  have H2 := Lib.hid h2
  have Hc := Lib.hid hc
  have HI_n : Hid (isI n = true) := by refine Lib.hid ?_; simp [isI]; omega
  have b1 : decide (n < 0) = false := by simp; omega
  have b2 : (n == 0) = true := by simp; omega
  have b3 : (n == -9223372036854775808) = false := by simp; omega
  have b4 : decide (0 ≤ n) = true := by simp; omega
  have b5 : (n != -9223372036854775808) = true := by simp; omega
  have b6 : ¬ n = -9223372036854775808 := by omega
  clear h1 h2 hc

  go_enter Try.func10, Try.ntmps10
  go_wp2_with fail
  refine (of_z (n) _ H1.out H2.out).mono ?_
  rintro e w1 ⟨he, y1, rfl, hy⟩
  have HE := Lib.hid he
  clear he
  have HY1 := Lib.hid hy
  clear hy
  obtain ⟨m1, aa1, ll1, cc1, rfl⟩ := HY1.out.form
  go_wp2_with fail
  refine (isInt_z (1) (n) _ _ ((HY1.out.ext (Ext.alloc _ _)).z) (by omega)).mono ?_
  rintro e w2 ⟨he, y2, rfl, hy⟩
  replace HY1 := Lib.hid (HY1.out.ext ((Ext.alloc _ _).trans he))
  replace HE := Lib.hid (HE.out.trans ((Ext.alloc _ _).trans he))
  have hb := he.block (heap_alloc_new _ _)
  have cv30 := blk_cell hb 0
  have cv31 := blk_cell hb 1
  simp at cv30 cv31
  clear hb
  clear he
  obtain rfl : y2 = .bool true := hy.trans (by rw [HI_n.out])
  have cv30' := fun o => (Ext.alloc w2 o).cell cv30
  have cv31' := fun o => (Ext.alloc w2 o).cell cv31
  go_wp2_with fail
  refine (toImpl_z (1) (n) _ _ (HY1.out.z) (by omega)).mono ?_
  rintro e w3 ⟨he, y3, rfl, hy⟩
  clear cv30' cv31'
  replace HY1 := Lib.hid (HY1.out.ext he)
  replace HE := Lib.hid (HE.out.trans he)
  replace cv30 := he.cell cv30
  replace cv31 := he.cell cv31
  clear he
  have HY3 := Lib.hid hy
  clear hy
  obtain ⟨m3, aa3, ll3, cc3, rfl⟩ := HY3.out.form
  have cv30' := fun o => (Ext.alloc w3 o).cell cv30
  have cv31' := fun o => (Ext.alloc w3 o).cell cv31
  go_wp2_with fail
  refine (implInt64_z (1) (n) _ _ (HY3.out.z) (by omega) (HI_n.out)).mono ?_
  rintro e w4 ⟨he, y4, rfl, hy⟩
  clear cv30' cv31'
  replace HY1 := Lib.hid (HY1.out.ext he)
  replace HY3 := Lib.hid (HY3.out.ext he)
  replace HE := Lib.hid (HE.out.trans he)
  replace cv30 := he.cell cv30
  replace cv31 := he.cell cv31
  clear he
  obtain rfl : y4 = .int .i64 (n) := hy
  have cv30' := fun o => (Ext.alloc w4 o).cell cv30
  have cv31' := fun o => (Ext.alloc w4 o).cell cv31
  go_wp2_with fail
  refine (neg_z (1) (n) _ _ (HY1.out.z) (by omega)).mono ?_
  rintro e w5 ⟨he, y5, rfl, hy⟩
  clear cv30' cv31'
  replace HY1 := Lib.hid (HY1.out.ext he)
  replace HY3 := Lib.hid (HY3.out.ext he)
  replace HE := Lib.hid (HE.out.trans he)
  replace cv30 := he.cell cv30
  replace cv31 := he.cell cv31
  clear he
  have HY5 := Lib.hid hy
  clear hy
  obtain ⟨m5, aa5, ll5, cc5, rfl⟩ := HY5.out.form
  have cv30' := fun o => (Ext.alloc w5 o).cell cv30
  have cv31' := fun o => (Ext.alloc w5 o).cell cv31
  go_wp2_with fail
  refine (isInt_z (1) (-(n)) _ _ (HY5.out.z) (by omega)).mono ?_
  rintro e w6 ⟨he, y6, rfl, hy⟩
  clear cv30' cv31'
  replace HY1 := Lib.hid (HY1.out.ext he)
  replace HY3 := Lib.hid (HY3.out.ext he)
  replace HY5 := Lib.hid (HY5.out.ext he)
  replace HE := Lib.hid (HE.out.trans he)
  replace cv30 := he.cell cv30
  replace cv31 := he.cell cv31
  clear he
  obtain rfl : y6 = .bool true := hy.trans (by have := H1.out; have := H2.out; have := Hc.out; simp [isI]; omega)
  have cv30' := fun o => (Ext.alloc w6 o).cell cv30
  have cv31' := fun o => (Ext.alloc w6 o).cell cv31
  go_wp2_with fail
  refine (sign_z (1) (n) _ _ (HY1.out.z) (by omega)).mono ?_
  rintro e w7 ⟨he, y7, rfl, hy⟩
  clear cv30' cv31'
  replace HY1 := Lib.hid (HY1.out.ext he)
  replace HY3 := Lib.hid (HY3.out.ext he)
  replace HY5 := Lib.hid (HY5.out.ext he)
  replace HE := Lib.hid (HE.out.trans he)
  replace cv30 := he.cell cv30
  replace cv31 := he.cell cv31
  clear he
  obtain rfl : y7 = .int .i64 0 := hy.trans (by have := H1.out; have := H2.out; have := Hc.out; rw [show sgnZ n = 0 by unfold sgnZ; split <;> (try split) <;> omega])
  have cv30' := fun o => (Ext.alloc w7 o).cell cv30
  have cv31' := fun o => (Ext.alloc w7 o).cell cv31
  go_wp2_with fail
  refine (sign_z (1) (n) _ _ (HY1.out.z) (by omega)).mono ?_
  rintro e w8 ⟨he, y8, rfl, hy⟩
  clear cv30' cv31'
  replace HY1 := Lib.hid (HY1.out.ext he)
  replace HY3 := Lib.hid (HY3.out.ext he)
  replace HY5 := Lib.hid (HY5.out.ext he)
  replace HE := Lib.hid (HE.out.trans he)
  replace cv30 := he.cell cv30
  replace cv31 := he.cell cv31
  clear he
  obtain rfl : y8 = .int .i64 0 := hy.trans (by have := H1.out; have := H2.out; have := Hc.out; rw [show sgnZ n = 0 by unfold sgnZ; split <;> (try split) <;> omega])
  have cv30' := fun o => (Ext.alloc w8 o).cell cv30
  have cv31' := fun o => (Ext.alloc w8 o).cell cv31
  go_wp2_with fail
  refine (isUint_z (1) (n) _ _ (HY1.out.z) (by omega)).mono ?_
  rintro e w9 ⟨he, y9, rfl, hy⟩
  clear cv30' cv31'
  replace HY1 := Lib.hid (HY1.out.ext he)
  replace HY3 := Lib.hid (HY3.out.ext he)
  replace HY5 := Lib.hid (HY5.out.ext he)
  replace HE := Lib.hid (HE.out.trans he)
  replace cv30 := he.cell cv30
  replace cv31 := he.cell cv31
  clear he
  obtain rfl : y9 = .bool true := hy.trans (by have := H1.out; have := H2.out; have := Hc.out; simp [isU]; omega)
  have cv30' := fun o => (Ext.alloc w9 o).cell cv30
  have cv31' := fun o => (Ext.alloc w9 o).cell cv31
  go_wp2_with fail
  go_ret
  exact ⟨HE.out, rfl⟩

set_option maxHeartbeats 1000000 in
theorem fnInt64Round_p  (n : Int) (w : World)  (h1 : -9223372036854775808 ≤ n) (h2 : n < 9223372036854775808) (hc : 0 < n) :
    Calls Try.prog 10 #[.int .i64 n] w (ValR (.bool true) w) := by
  have H1 := Lib.hid h1
  have H2 := Lib.hid h2
  have Hc := Lib.hid hc
  have HI_n : Hid (isI n = true) := by refine Lib.hid ?_; simp [isI]; omega
  have b1 : decide (n < 0) = false := by simp; omega
  have b2 : (n == 0) = false := by simp; omega
  have b3 : (n == -9223372036854775808) = false := by simp; omega
  have b4 : decide (0 ≤ n) = true := by simp; omega
  have b5 : (n != -9223372036854775808) = true := by simp; omega
  have b6 : ¬ n = -9223372036854775808 := by omega
  clear h1 h2 hc

  go_enter Try.func10, Try.ntmps10
  go_wp2_with fail
  refine (of_z (n) _ H1.out H2.out).mono ?_
  rintro e w1 ⟨he, y1, rfl, hy⟩
  have HE := Lib.hid he
  clear he
  have HY1 := Lib.hid hy
  clear hy
  obtain ⟨m1, aa1, ll1, cc1, rfl⟩ := HY1.out.form
  go_wp2_with fail
  refine (isInt_z (1) (n) _ _ ((HY1.out.ext (Ext.alloc _ _)).z) (by omega)).mono ?_
  rintro e w2 ⟨he, y2, rfl, hy⟩
  replace HY1 := Lib.hid (HY1.out.ext ((Ext.alloc _ _).trans he))
  replace HE := Lib.hid (HE.out.trans ((Ext.alloc _ _).trans he))
  have hb := he.block (heap_alloc_new _ _)
  have cv30 := blk_cell hb 0
  have cv31 := blk_cell hb 1
  simp at cv30 cv31
  clear hb
  clear he
  obtain rfl : y2 = .bool true := hy.trans (by rw [HI_n.out])
  have cv30' := fun o => (Ext.alloc w2 o).cell cv30
  have cv31' := fun o => (Ext.alloc w2 o).cell cv31
  go_wp2_with fail
  refine (toImpl_z (1) (n) _ _ (HY1.out.z) (by omega)).mono ?_
  rintro e w3 ⟨he, y3, rfl, hy⟩
  clear cv30' cv31'
  replace HY1 := Lib.hid (HY1.out.ext he)
  replace HE := Lib.hid (HE.out.trans he)
  replace cv30 := he.cell cv30
  replace cv31 := he.cell cv31
  clear he
  have HY3 := Lib.hid hy
  clear hy
  obtain ⟨m3, aa3, ll3, cc3, rfl⟩ := HY3.out.form
  have cv30' := fun o => (Ext.alloc w3 o).cell cv30
  have cv31' := fun o => (Ext.alloc w3 o).cell cv31
  go_wp2_with fail
  refine (implInt64_z (1) (n) _ _ (HY3.out.z) (by omega) (HI_n.out)).mono ?_
  rintro e w4 ⟨he, y4, rfl, hy⟩
  clear cv30' cv31'
  replace HY1 := Lib.hid (HY1.out.ext he)
  replace HY3 := Lib.hid (HY3.out.ext he)
  replace HE := Lib.hid (HE.out.trans he)
  replace cv30 := he.cell cv30
  replace cv31 := he.cell cv31
  clear he
  obtain rfl : y4 = .int .i64 (n) := hy
  have cv30' := fun o => (Ext.alloc w4 o).cell cv30
  have cv31' := fun o => (Ext.alloc w4 o).cell cv31
  go_wp2_with fail
  refine (neg_z (1) (n) _ _ (HY1.out.z) (by omega)).mono ?_
  rintro e w5 ⟨he, y5, rfl, hy⟩
  clear cv30' cv31'
  replace HY1 := Lib.hid (HY1.out.ext he)
  replace HY3 := Lib.hid (HY3.out.ext he)
  replace HE := Lib.hid (HE.out.trans he)
  replace cv30 := he.cell cv30
  replace cv31 := he.cell cv31
  clear he
  have HY5 := Lib.hid hy
  clear hy
  obtain ⟨m5, aa5, ll5, cc5, rfl⟩ := HY5.out.form
  have cv30' := fun o => (Ext.alloc w5 o).cell cv30
  have cv31' := fun o => (Ext.alloc w5 o).cell cv31
  go_wp2_with fail
  refine (isInt_z (1) (-(n)) _ _ (HY5.out.z) (by omega)).mono ?_
  rintro e w6 ⟨he, y6, rfl, hy⟩
  clear cv30' cv31'
  replace HY1 := Lib.hid (HY1.out.ext he)
  replace HY3 := Lib.hid (HY3.out.ext he)
  replace HY5 := Lib.hid (HY5.out.ext he)
  replace HE := Lib.hid (HE.out.trans he)
  replace cv30 := he.cell cv30
  replace cv31 := he.cell cv31
  clear he
  obtain rfl : y6 = .bool true := hy.trans (by have := H1.out; have := H2.out; have := Hc.out; simp [isI]; omega)
  have cv30' := fun o => (Ext.alloc w6 o).cell cv30
  have cv31' := fun o => (Ext.alloc w6 o).cell cv31
  go_wp2_with fail
  refine (sign_z (1) (n) _ _ (HY1.out.z) (by omega)).mono ?_
  rintro e w7 ⟨he, y7, rfl, hy⟩
  clear cv30' cv31'
  replace HY1 := Lib.hid (HY1.out.ext he)
  replace HY3 := Lib.hid (HY3.out.ext he)
  replace HY5 := Lib.hid (HY5.out.ext he)
  replace HE := Lib.hid (HE.out.trans he)
  replace cv30 := he.cell cv30
  replace cv31 := he.cell cv31
  clear he
  obtain rfl : y7 = .int .i64 1 := hy.trans (by have := H1.out; have := H2.out; have := Hc.out; rw [show sgnZ n = 1 by unfold sgnZ; split <;> (try split) <;> omega])
  have cv30' := fun o => (Ext.alloc w7 o).cell cv30
  have cv31' := fun o => (Ext.alloc w7 o).cell cv31
  go_wp2_with fail
  refine (sign_z (1) (n) _ _ (HY1.out.z) (by omega)).mono ?_
  rintro e w8 ⟨he, y8, rfl, hy⟩
  clear cv30' cv31'
  replace HY1 := Lib.hid (HY1.out.ext he)
  replace HY3 := Lib.hid (HY3.out.ext he)
  replace HY5 := Lib.hid (HY5.out.ext he)
  replace HE := Lib.hid (HE.out.trans he)
  replace cv30 := he.cell cv30
  replace cv31 := he.cell cv31
  clear he
  obtain rfl : y8 = .int .i64 1 := hy.trans (by have := H1.out; have := H2.out; have := Hc.out; rw [show sgnZ n = 1 by unfold sgnZ; split <;> (try split) <;> omega])
  have cv30' := fun o => (Ext.alloc w8 o).cell cv30
  have cv31' := fun o => (Ext.alloc w8 o).cell cv31
  go_wp2_with fail
  refine (isUint_z (1) (n) _ _ (HY1.out.z) (by omega)).mono ?_
  rintro e w9 ⟨he, y9, rfl, hy⟩
  clear cv30' cv31'
  replace HY1 := Lib.hid (HY1.out.ext he)
  replace HY3 := Lib.hid (HY3.out.ext he)
  replace HY5 := Lib.hid (HY5.out.ext he)
  replace HE := Lib.hid (HE.out.trans he)
  replace cv30 := he.cell cv30
  replace cv31 := he.cell cv31
  clear he
  obtain rfl : y9 = .bool true := hy.trans (by have := H1.out; have := H2.out; have := Hc.out; simp [isU]; omega)
  have cv30' := fun o => (Ext.alloc w9 o).cell cv30
  have cv31' := fun o => (Ext.alloc w9 o).cell cv31
  go_wp2_with fail
  go_ret
  exact ⟨HE.out, rfl⟩

theorem i64_int {x : Int} (hx : (Lit.int .i64 x).wf = true) : -9223372036854775808 ≤ x ∧ x < 9223372036854775808 := by
  have h : -9223372036854775808 ≤ x ∧ x ≤ 9223372036854775807 := by simpa [Lit.wf, IntKind.min, IntKind.max, IntKind.signed, IntKind.bits] using hx
  omega

theorem fnInt64Round_walk (n : Int) (w : World) (hx : (Lit.int .i64 n).wf = true) :
    Calls Try.prog 10 #[.int .i64 n] w (ValR (.bool true) w) := by
  obtain ⟨h1, h2⟩ := i64_int hx
  by_cases h : n = -9223372036854775808
  · exact fnInt64Round_m n w h1 h2 h
  · by_cases h3 : n < 0
    · exact fnInt64Round_n n w h1 h2 ⟨by omega, h3⟩
    · by_cases h4 : n = 0
      · exact fnInt64Round_z n w h1 h2 h4
      · exact fnInt64Round_p n w h1 h2 (by omega)

set_option maxHeartbeats 1000000 in
theorem fnInt64Order_1  (n0 : Bool) (v0 : Value) (ws0 : List Nat) (n1 : Bool) (v1 : Value) (ws1 : List Nat) (w : World) (hr0 : Rd .u64 w v0 ws0) (hl0 : ws0.length ≤ 17592186043904) (hr1 : Rd .u64 w v1 ws1) (hl1 : ws1.length ≤ 17592186043904) (hc : isI (ival n0 ws0) = false) :
    Calls Try.prog 9 #[.agg #[.bool n0, v0], .agg #[.bool n1, v1]] w (ValR (.bool true) w) := by
  obtain ⟨a0, c0, rfl⟩ := hr0.form
  have hz0 : IsZ 17592186043904 (ival n0 ws0) (.agg #[.bool n0, .slice a0 ws0.length c0]) w := ⟨n0, _, ws0, rfl, hr0, hl0, rfl⟩
  generalize hg0 : ival n0 ws0 = a at hz0
  have HZ0 := Lib.hid hz0
  have HG0 := Lib.hid hg0
  clear hz0 hg0 hr0
  obtain ⟨a1, c1, rfl⟩ := hr1.form
  have hz1 : IsZ 17592186043904 (ival n1 ws1) (.agg #[.bool n1, .slice a1 ws1.length c1]) w := ⟨n1, _, ws1, rfl, hr1, hl1, rfl⟩
  generalize hg1 : ival n1 ws1 = b at hz1
  have HZ1 := Lib.hid hz1
  have HG1 := Lib.hid hg1
  clear hz1 hg1 hr1
  simp only [HG0.out, HG1.out] at hc
  have HC := Lib.hid hc
  clear hc

  go_enter Try.func9, Try.ntmps9
  go_wp2_with fail
  refine (toSpec_z (17592186043904) (a) _ _ ((HZ0.out.ext ((Ext.alloc _ _).trans (Ext.alloc _ _)))) (by omega)).mono ?_
  rintro e w1 ⟨he, y1, rfl, hy⟩
  replace HZ0 := Lib.hid (HZ0.out.ext (((Ext.alloc _ _).trans (Ext.alloc _ _)).trans he))
  replace HZ1 := Lib.hid (HZ1.out.ext (((Ext.alloc _ _).trans (Ext.alloc _ _)).trans he))
  have HE := Lib.hid (((Ext.alloc _ _).trans (Ext.alloc _ _)).trans he)
  have hb := he.block ((Ext.alloc _ _).block (heap_alloc_new _ _))
  have cb00 := blk_cell hb 0
  have cb01 := blk_cell hb 1
  simp at cb00 cb01
  clear hb
  have hb := he.block (heap_second _ _ _)
  have cb10 := blk_cell hb 0
  have cb11 := blk_cell hb 1
  simp at cb10 cb11
  clear hb
  clear he
  have HY1 := Lib.hid hy
  clear hy
  obtain ⟨m1, aa1, ll1, cc1, rfl⟩ := HY1.out.form
  have cb00' := fun o => (Ext.alloc w1 o).cell cb00
  have cb01' := fun o => (Ext.alloc w1 o).cell cb01
  have cb10' := fun o => (Ext.alloc w1 o).cell cb10
  have cb11' := fun o => (Ext.alloc w1 o).cell cb11
  go_wp2_with fail
  refine (specIsInt64_z (17592186043904) (a) _ _ (HY1.out.z) (by omega)).mono ?_
  rintro e w2 ⟨he, y2, rfl, hy⟩
  clear cb00' cb01' cb10' cb11'
  replace HZ0 := Lib.hid (HZ0.out.ext he)
  replace HZ1 := Lib.hid (HZ1.out.ext he)
  replace HY1 := Lib.hid (HY1.out.ext he)
  replace HE := Lib.hid (HE.out.trans he)
  replace cb00 := he.cell cb00
  replace cb01 := he.cell cb01
  replace cb10 := he.cell cb10
  replace cb11 := he.cell cb11
  clear he
  obtain rfl : y2 = .bool false := hy.trans (by rw [HC.out])
  have cb00' := fun o => (Ext.alloc w2 o).cell cb00
  have cb01' := fun o => (Ext.alloc w2 o).cell cb01
  have cb10' := fun o => (Ext.alloc w2 o).cell cb10
  have cb11' := fun o => (Ext.alloc w2 o).cell cb11
  go_wp2_with fail
  go_ret
  exact ⟨HE.out, rfl⟩

set_option maxHeartbeats 1000000 in
theorem fnInt64Order_2  (n0 : Bool) (v0 : Value) (ws0 : List Nat) (n1 : Bool) (v1 : Value) (ws1 : List Nat) (w : World) (hr0 : Rd .u64 w v0 ws0) (hl0 : ws0.length ≤ 17592186043904) (hr1 : Rd .u64 w v1 ws1) (hl1 : ws1.length ≤ 17592186043904) (hc : isI (ival n0 ws0) = true ∧ isI (ival n1 ws1) = false) :
    Calls Try.prog 9 #[.agg #[.bool n0, v0], .agg #[.bool n1, v1]] w (ValR (.bool true) w) := by
  obtain ⟨a0, c0, rfl⟩ := hr0.form
  have hz0 : IsZ 17592186043904 (ival n0 ws0) (.agg #[.bool n0, .slice a0 ws0.length c0]) w := ⟨n0, _, ws0, rfl, hr0, hl0, rfl⟩
  generalize hg0 : ival n0 ws0 = a at hz0
  have HZ0 := Lib.hid hz0
  have HG0 := Lib.hid hg0
  clear hz0 hg0 hr0
  obtain ⟨a1, c1, rfl⟩ := hr1.form
  have hz1 : IsZ 17592186043904 (ival n1 ws1) (.agg #[.bool n1, .slice a1 ws1.length c1]) w := ⟨n1, _, ws1, rfl, hr1, hl1, rfl⟩
  generalize hg1 : ival n1 ws1 = b at hz1
  have HZ1 := Lib.hid hz1
  have HG1 := Lib.hid hg1
  clear hz1 hg1 hr1
  simp only [HG0.out, HG1.out] at hc
  have HC := Lib.hid hc
  clear hc

  go_enter Try.func9, Try.ntmps9
  go_wp2_with fail
  refine (toSpec_z (17592186043904) (a) _ _ ((HZ0.out.ext ((Ext.alloc _ _).trans (Ext.alloc _ _)))) (by omega)).mono ?_
  rintro e w1 ⟨he, y1, rfl, hy⟩
  replace HZ0 := Lib.hid (HZ0.out.ext (((Ext.alloc _ _).trans (Ext.alloc _ _)).trans he))
  replace HZ1 := Lib.hid (HZ1.out.ext (((Ext.alloc _ _).trans (Ext.alloc _ _)).trans he))
  have HE := Lib.hid (((Ext.alloc _ _).trans (Ext.alloc _ _)).trans he)
  have hb := he.block ((Ext.alloc _ _).block (heap_alloc_new _ _))
  have cb00 := blk_cell hb 0
  have cb01 := blk_cell hb 1
  simp at cb00 cb01
  clear hb
  have hb := he.block (heap_second _ _ _)
  have cb10 := blk_cell hb 0
  have cb11 := blk_cell hb 1
  simp at cb10 cb11
  clear hb
  clear he
  have HY1 := Lib.hid hy
  clear hy
  obtain ⟨m1, aa1, ll1, cc1, rfl⟩ := HY1.out.form
  have cb00' := fun o => (Ext.alloc w1 o).cell cb00
  have cb01' := fun o => (Ext.alloc w1 o).cell cb01
  have cb10' := fun o => (Ext.alloc w1 o).cell cb10
  have cb11' := fun o => (Ext.alloc w1 o).cell cb11
  go_wp2_with fail
  refine (specIsInt64_z (17592186043904) (a) _ _ (HY1.out.z) (by omega)).mono ?_
  rintro e w2 ⟨he, y2, rfl, hy⟩
  clear cb00' cb01' cb10' cb11'
  replace HZ0 := Lib.hid (HZ0.out.ext he)
  replace HZ1 := Lib.hid (HZ1.out.ext he)
  replace HY1 := Lib.hid (HY1.out.ext he)
  replace HE := Lib.hid (HE.out.trans he)
  replace cb00 := he.cell cb00
  replace cb01 := he.cell cb01
  replace cb10 := he.cell cb10
  replace cb11 := he.cell cb11
  clear he
  obtain rfl : y2 = .bool true := hy.trans (by rw [HC.out.1])
  have cb00' := fun o => (Ext.alloc w2 o).cell cb00
  have cb01' := fun o => (Ext.alloc w2 o).cell cb01
  have cb10' := fun o => (Ext.alloc w2 o).cell cb10
  have cb11' := fun o => (Ext.alloc w2 o).cell cb11
  go_wp2_with fail
  refine (toSpec_z (17592186043904) (b) _ _ (HZ1.out) (by omega)).mono ?_
  rintro e w3 ⟨he, y3, rfl, hy⟩
  clear cb00' cb01' cb10' cb11'
  replace HZ0 := Lib.hid (HZ0.out.ext he)
  replace HZ1 := Lib.hid (HZ1.out.ext he)
  replace HY1 := Lib.hid (HY1.out.ext he)
  replace HE := Lib.hid (HE.out.trans he)
  replace cb00 := he.cell cb00
  replace cb01 := he.cell cb01
  replace cb10 := he.cell cb10
  replace cb11 := he.cell cb11
  clear he
  have HY3 := Lib.hid hy
  clear hy
  obtain ⟨m3, aa3, ll3, cc3, rfl⟩ := HY3.out.form
  have cb00' := fun o => (Ext.alloc w3 o).cell cb00
  have cb01' := fun o => (Ext.alloc w3 o).cell cb01
  have cb10' := fun o => (Ext.alloc w3 o).cell cb10
  have cb11' := fun o => (Ext.alloc w3 o).cell cb11
  go_wp2_with fail
  refine (specIsInt64_z (17592186043904) (b) _ _ (HY3.out.z) (by omega)).mono ?_
  rintro e w4 ⟨he, y4, rfl, hy⟩
  clear cb00' cb01' cb10' cb11'
  replace HZ0 := Lib.hid (HZ0.out.ext he)
  replace HZ1 := Lib.hid (HZ1.out.ext he)
  replace HY1 := Lib.hid (HY1.out.ext he)
  replace HY3 := Lib.hid (HY3.out.ext he)
  replace HE := Lib.hid (HE.out.trans he)
  replace cb00 := he.cell cb00
  replace cb01 := he.cell cb01
  replace cb10 := he.cell cb10
  replace cb11 := he.cell cb11
  clear he
  obtain rfl : y4 = .bool false := hy.trans (by rw [HC.out.2])
  have cb00' := fun o => (Ext.alloc w4 o).cell cb00
  have cb01' := fun o => (Ext.alloc w4 o).cell cb01
  have cb10' := fun o => (Ext.alloc w4 o).cell cb10
  have cb11' := fun o => (Ext.alloc w4 o).cell cb11
  go_wp2_with fail
  go_ret
  exact ⟨HE.out, rfl⟩

set_option maxHeartbeats 1000000 in
theorem fnInt64Order_3  (n0 : Bool) (v0 : Value) (ws0 : List Nat) (n1 : Bool) (v1 : Value) (ws1 : List Nat) (w : World) (hr0 : Rd .u64 w v0 ws0) (hl0 : ws0.length ≤ 17592186043904) (hr1 : Rd .u64 w v1 ws1) (hl1 : ws1.length ≤ 17592186043904) (hc : isI (ival n0 ws0) = true ∧ isI (ival n1 ws1) = true ∧ (ival n0 ws0) < (ival n1 ws1)) :
    Calls Try.prog 9 #[.agg #[.bool n0, v0], .agg #[.bool n1, v1]] w (ValR (.bool true) w) := by
  obtain ⟨a0, c0, rfl⟩ := hr0.form
  have hz0 : IsZ 17592186043904 (ival n0 ws0) (.agg #[.bool n0, .slice a0 ws0.length c0]) w := ⟨n0, _, ws0, rfl, hr0, hl0, rfl⟩
  generalize hg0 : ival n0 ws0 = a at hz0
  have HZ0 := Lib.hid hz0
  have HG0 := Lib.hid hg0
  clear hz0 hg0 hr0
  obtain ⟨a1, c1, rfl⟩ := hr1.form
  have hz1 : IsZ 17592186043904 (ival n1 ws1) (.agg #[.bool n1, .slice a1 ws1.length c1]) w := ⟨n1, _, ws1, rfl, hr1, hl1, rfl⟩
  generalize hg1 : ival n1 ws1 = b at hz1
  have HZ1 := Lib.hid hz1
  have HG1 := Lib.hid hg1
  clear hz1 hg1 hr1
  simp only [HG0.out, HG1.out] at hc
  have HI_a := Lib.hid hc.1
  have HI_b := Lib.hid hc.2.1
  have HC := Lib.hid hc.2.2
  have b1 : decide (a < b) = true := by have := hc.2.2; simp; omega
  have b2 : decide (b < a) = false := by have := hc.2.2; simp; omega
  have b3 : (a == b) = false := by have := hc.2.2; simp; omega
  clear hc

  go_enter Try.func9, Try.ntmps9
  go_wp2_with fail
  refine (toSpec_z (17592186043904) (a) _ _ ((HZ0.out.ext ((Ext.alloc _ _).trans (Ext.alloc _ _)))) (by omega)).mono ?_
  rintro e w1 ⟨he, y1, rfl, hy⟩
  replace HZ0 := Lib.hid (HZ0.out.ext (((Ext.alloc _ _).trans (Ext.alloc _ _)).trans he))
  replace HZ1 := Lib.hid (HZ1.out.ext (((Ext.alloc _ _).trans (Ext.alloc _ _)).trans he))
  have HE := Lib.hid (((Ext.alloc _ _).trans (Ext.alloc _ _)).trans he)
  have hb := he.block ((Ext.alloc _ _).block (heap_alloc_new _ _))
  have cb00 := blk_cell hb 0
  have cb01 := blk_cell hb 1
  simp at cb00 cb01
  clear hb
  have hb := he.block (heap_second _ _ _)
  have cb10 := blk_cell hb 0
  have cb11 := blk_cell hb 1
  simp at cb10 cb11
  clear hb
  clear he
  have HY1 := Lib.hid hy
  clear hy
  obtain ⟨m1, aa1, ll1, cc1, rfl⟩ := HY1.out.form
  have cb00' := fun o => (Ext.alloc w1 o).cell cb00
  have cb01' := fun o => (Ext.alloc w1 o).cell cb01
  have cb10' := fun o => (Ext.alloc w1 o).cell cb10
  have cb11' := fun o => (Ext.alloc w1 o).cell cb11
  go_wp2_with fail
  refine (specIsInt64_z (17592186043904) (a) _ _ (HY1.out.z) (by omega)).mono ?_
  rintro e w2 ⟨he, y2, rfl, hy⟩
  clear cb00' cb01' cb10' cb11'
  replace HZ0 := Lib.hid (HZ0.out.ext he)
  replace HZ1 := Lib.hid (HZ1.out.ext he)
  replace HY1 := Lib.hid (HY1.out.ext he)
  replace HE := Lib.hid (HE.out.trans he)
  replace cb00 := he.cell cb00
  replace cb01 := he.cell cb01
  replace cb10 := he.cell cb10
  replace cb11 := he.cell cb11
  clear he
  obtain rfl : y2 = .bool true := hy.trans (by rw [HI_a.out])
  have cb00' := fun o => (Ext.alloc w2 o).cell cb00
  have cb01' := fun o => (Ext.alloc w2 o).cell cb01
  have cb10' := fun o => (Ext.alloc w2 o).cell cb10
  have cb11' := fun o => (Ext.alloc w2 o).cell cb11
  go_wp2_with fail
  refine (toSpec_z (17592186043904) (b) _ _ (HZ1.out) (by omega)).mono ?_
  rintro e w3 ⟨he, y3, rfl, hy⟩
  clear cb00' cb01' cb10' cb11'
  replace HZ0 := Lib.hid (HZ0.out.ext he)
  replace HZ1 := Lib.hid (HZ1.out.ext he)
  replace HY1 := Lib.hid (HY1.out.ext he)
  replace HE := Lib.hid (HE.out.trans he)
  replace cb00 := he.cell cb00
  replace cb01 := he.cell cb01
  replace cb10 := he.cell cb10
  replace cb11 := he.cell cb11
  clear he
  have HY3 := Lib.hid hy
  clear hy
  obtain ⟨m3, aa3, ll3, cc3, rfl⟩ := HY3.out.form
  have cb00' := fun o => (Ext.alloc w3 o).cell cb00
  have cb01' := fun o => (Ext.alloc w3 o).cell cb01
  have cb10' := fun o => (Ext.alloc w3 o).cell cb10
  have cb11' := fun o => (Ext.alloc w3 o).cell cb11
  go_wp2_with fail
  refine (specIsInt64_z (17592186043904) (b) _ _ (HY3.out.z) (by omega)).mono ?_
  rintro e w4 ⟨he, y4, rfl, hy⟩
  clear cb00' cb01' cb10' cb11'
  replace HZ0 := Lib.hid (HZ0.out.ext he)
  replace HZ1 := Lib.hid (HZ1.out.ext he)
  replace HY1 := Lib.hid (HY1.out.ext he)
  replace HY3 := Lib.hid (HY3.out.ext he)
  replace HE := Lib.hid (HE.out.trans he)
  replace cb00 := he.cell cb00
  replace cb01 := he.cell cb01
  replace cb10 := he.cell cb10
  replace cb11 := he.cell cb11
  clear he
  obtain rfl : y4 = .bool true := hy.trans (by rw [HI_b.out])
  have cb00' := fun o => (Ext.alloc w4 o).cell cb00
  have cb01' := fun o => (Ext.alloc w4 o).cell cb01
  have cb10' := fun o => (Ext.alloc w4 o).cell cb10
  have cb11' := fun o => (Ext.alloc w4 o).cell cb11
  go_wp2_with fail
  refine (toImpl_z (17592186043904) (a) _ _ (HZ0.out) (by omega)).mono ?_
  rintro e w5 ⟨he, y5, rfl, hy⟩
  clear cb00' cb01' cb10' cb11'
  replace HZ0 := Lib.hid (HZ0.out.ext he)
  replace HZ1 := Lib.hid (HZ1.out.ext he)
  replace HY1 := Lib.hid (HY1.out.ext he)
  replace HY3 := Lib.hid (HY3.out.ext he)
  replace HE := Lib.hid (HE.out.trans he)
  replace cb00 := he.cell cb00
  replace cb01 := he.cell cb01
  replace cb10 := he.cell cb10
  replace cb11 := he.cell cb11
  clear he
  have HY5 := Lib.hid hy
  clear hy
  obtain ⟨m5, aa5, ll5, cc5, rfl⟩ := HY5.out.form
  have cb00' := fun o => (Ext.alloc w5 o).cell cb00
  have cb01' := fun o => (Ext.alloc w5 o).cell cb01
  have cb10' := fun o => (Ext.alloc w5 o).cell cb10
  have cb11' := fun o => (Ext.alloc w5 o).cell cb11
  go_wp2_with fail
  refine (implInt64_z (17592186043904) (a) _ _ (HY5.out.z) (by omega) (HI_a.out)).mono ?_
  rintro e w6 ⟨he, y6, rfl, hy⟩
  clear cb00' cb01' cb10' cb11'
  replace HZ0 := Lib.hid (HZ0.out.ext he)
  replace HZ1 := Lib.hid (HZ1.out.ext he)
  replace HY1 := Lib.hid (HY1.out.ext he)
  replace HY3 := Lib.hid (HY3.out.ext he)
  replace HY5 := Lib.hid (HY5.out.ext he)
  replace HE := Lib.hid (HE.out.trans he)
  replace cb00 := he.cell cb00
  replace cb01 := he.cell cb01
  replace cb10 := he.cell cb10
  replace cb11 := he.cell cb11
  clear he
  obtain rfl : y6 = .int .i64 (a) := hy
  have cb00' := fun o => (Ext.alloc w6 o).cell cb00
  have cb01' := fun o => (Ext.alloc w6 o).cell cb01
  have cb10' := fun o => (Ext.alloc w6 o).cell cb10
  have cb11' := fun o => (Ext.alloc w6 o).cell cb11
  go_wp2_with fail
  refine (toImpl_z (17592186043904) (b) _ _ (HZ1.out) (by omega)).mono ?_
  rintro e w7 ⟨he, y7, rfl, hy⟩
  clear cb00' cb01' cb10' cb11'
  replace HZ0 := Lib.hid (HZ0.out.ext he)
  replace HZ1 := Lib.hid (HZ1.out.ext he)
  replace HY1 := Lib.hid (HY1.out.ext he)
  replace HY3 := Lib.hid (HY3.out.ext he)
  replace HY5 := Lib.hid (HY5.out.ext he)
  replace HE := Lib.hid (HE.out.trans he)
  replace cb00 := he.cell cb00
  replace cb01 := he.cell cb01
  replace cb10 := he.cell cb10
  replace cb11 := he.cell cb11
  clear he
  have HY7 := Lib.hid hy
  clear hy
  obtain ⟨m7, aa7, ll7, cc7, rfl⟩ := HY7.out.form
  have cb00' := fun o => (Ext.alloc w7 o).cell cb00
  have cb01' := fun o => (Ext.alloc w7 o).cell cb01
  have cb10' := fun o => (Ext.alloc w7 o).cell cb10
  have cb11' := fun o => (Ext.alloc w7 o).cell cb11
  go_wp2_with fail
  refine (implInt64_z (17592186043904) (b) _ _ (HY7.out.z) (by omega) (HI_b.out)).mono ?_
  rintro e w8 ⟨he, y8, rfl, hy⟩
  clear cb00' cb01' cb10' cb11'
  replace HZ0 := Lib.hid (HZ0.out.ext he)
  replace HZ1 := Lib.hid (HZ1.out.ext he)
  replace HY1 := Lib.hid (HY1.out.ext he)
  replace HY3 := Lib.hid (HY3.out.ext he)
  replace HY5 := Lib.hid (HY5.out.ext he)
  replace HY7 := Lib.hid (HY7.out.ext he)
  replace HE := Lib.hid (HE.out.trans he)
  replace cb00 := he.cell cb00
  replace cb01 := he.cell cb01
  replace cb10 := he.cell cb10
  replace cb11 := he.cell cb11
  clear he
  obtain rfl : y8 = .int .i64 (b) := hy
  have cb00' := fun o => (Ext.alloc w8 o).cell cb00
  have cb01' := fun o => (Ext.alloc w8 o).cell cb01
  have cb10' := fun o => (Ext.alloc w8 o).cell cb10
  have cb11' := fun o => (Ext.alloc w8 o).cell cb11
  go_wp2_with fail
  refine (compare_z (17592186043904) (17592186043904) (a) (b) _ _ _ (HZ0.out) (HZ1.out) (by omega) (by omega)).mono ?_
  rintro e w9 ⟨he, y9, rfl, hy⟩
  clear cb00' cb01' cb10' cb11'
  replace HZ0 := Lib.hid (HZ0.out.ext he)
  replace HZ1 := Lib.hid (HZ1.out.ext he)
  replace HY1 := Lib.hid (HY1.out.ext he)
  replace HY3 := Lib.hid (HY3.out.ext he)
  replace HY5 := Lib.hid (HY5.out.ext he)
  replace HY7 := Lib.hid (HY7.out.ext he)
  replace HE := Lib.hid (HE.out.trans he)
  replace cb00 := he.cell cb00
  replace cb01 := he.cell cb01
  replace cb10 := he.cell cb10
  replace cb11 := he.cell cb11
  clear he
  obtain rfl : y9 = .int .i64 (-1) := hy.trans (by rw [cmpZ_lt HC.out])
  have cb00' := fun o => (Ext.alloc w9 o).cell cb00
  have cb01' := fun o => (Ext.alloc w9 o).cell cb01
  have cb10' := fun o => (Ext.alloc w9 o).cell cb10
  have cb11' := fun o => (Ext.alloc w9 o).cell cb11
  go_wp2_with fail
  refine (same_z (17592186043904) (17592186043904) (a) (b) _ _ _ (HZ0.out) (HZ1.out) (by omega) (by omega)).mono ?_
  rintro e w10 ⟨he, y10, rfl, hy⟩
  clear cb00' cb01' cb10' cb11'
  replace HZ0 := Lib.hid (HZ0.out.ext he)
  replace HZ1 := Lib.hid (HZ1.out.ext he)
  replace HY1 := Lib.hid (HY1.out.ext he)
  replace HY3 := Lib.hid (HY3.out.ext he)
  replace HY5 := Lib.hid (HY5.out.ext he)
  replace HY7 := Lib.hid (HY7.out.ext he)
  replace HE := Lib.hid (HE.out.trans he)
  replace cb00 := he.cell cb00
  replace cb01 := he.cell cb01
  replace cb10 := he.cell cb10
  replace cb11 := he.cell cb11
  clear he
  obtain rfl : y10 = .bool false := hy.trans (by have := HC.out; simp; omega)
  have cb00' := fun o => (Ext.alloc w10 o).cell cb00
  have cb01' := fun o => (Ext.alloc w10 o).cell cb01
  have cb10' := fun o => (Ext.alloc w10 o).cell cb10
  have cb11' := fun o => (Ext.alloc w10 o).cell cb11
  go_wp2_with fail
  go_ret
  exact ⟨HE.out, rfl⟩

set_option maxHeartbeats 1000000 in
theorem fnInt64Order_4  (n0 : Bool) (v0 : Value) (ws0 : List Nat) (n1 : Bool) (v1 : Value) (ws1 : List Nat) (w : World) (hr0 : Rd .u64 w v0 ws0) (hl0 : ws0.length ≤ 17592186043904) (hr1 : Rd .u64 w v1 ws1) (hl1 : ws1.length ≤ 17592186043904) (hc : isI (ival n0 ws0) = true ∧ isI (ival n1 ws1) = true ∧ (ival n0 ws0) = (ival n1 ws1)) :
    Calls Try.prog 9 #[.agg #[.bool n0, v0], .agg #[.bool n1, v1]] w (ValR (.bool true) w) := by
  obtain ⟨a0, c0, rfl⟩ := hr0.form
  have hz0 : IsZ 17592186043904 (ival n0 ws0) (.agg #[.bool n0, .slice a0 ws0.length c0]) w := ⟨n0, _, ws0, rfl, hr0, hl0, rfl⟩
  generalize hg0 : ival n0 ws0 = a at hz0
  have HZ0 := Lib.hid hz0
  have HG0 := Lib.hid hg0
  clear hz0 hg0 hr0
  obtain ⟨a1, c1, rfl⟩ := hr1.form
  have hz1 : IsZ 17592186043904 (ival n1 ws1) (.agg #[.bool n1, .slice a1 ws1.length c1]) w := ⟨n1, _, ws1, rfl, hr1, hl1, rfl⟩
  generalize hg1 : ival n1 ws1 = b at hz1
  have HZ1 := Lib.hid hz1
  have HG1 := Lib.hid hg1
  clear hz1 hg1 hr1
  simp only [HG0.out, HG1.out] at hc
  have HI_a := Lib.hid hc.1
  have HI_b := Lib.hid hc.2.1
  have HC := Lib.hid hc.2.2
  have b1 : decide (a < b) = false := by have := hc.2.2; simp; omega
  have b2 : decide (b < a) = false := by have := hc.2.2; simp; omega
  have b3 : (a == b) = true := by have := hc.2.2; simp; omega
  clear hc

  go_enter Try.func9, Try.ntmps9
  go_wp2_with fail
  refine (toSpec_z (17592186043904) (a) _ _ ((HZ0.out.ext ((Ext.alloc _ _).trans (Ext.alloc _ _)))) (by omega)).mono ?_
  rintro e w1 ⟨he, y1, rfl, hy⟩
  replace HZ0 := Lib.hid (HZ0.out.ext (((Ext.alloc _ _).trans (Ext.alloc _ _)).trans he))
  replace HZ1 := Lib.hid (HZ1.out.ext (((Ext.alloc _ _).trans (Ext.alloc _ _)).trans he))
  have HE := Lib.hid (((Ext.alloc _ _).trans (Ext.alloc _ _)).trans he)
  have hb := he.block ((Ext.alloc _ _).block (heap_alloc_new _ _))
  have cb00 := blk_cell hb 0
  have cb01 := blk_cell hb 1
  simp at cb00 cb01
  clear hb
  have hb := he.block (heap_second _ _ _)
  have cb10 := blk_cell hb 0
  have cb11 := blk_cell hb 1
  simp at cb10 cb11
  clear hb
  clear he
  have HY1 := Lib.hid hy
  clear hy
  obtain ⟨m1, aa1, ll1, cc1, rfl⟩ := HY1.out.form
  have cb00' := fun o => (Ext.alloc w1 o).cell cb00
  have cb01' := fun o => (Ext.alloc w1 o).cell cb01
  have cb10' := fun o => (Ext.alloc w1 o).cell cb10
  have cb11' := fun o => (Ext.alloc w1 o).cell cb11
  go_wp2_with fail
  refine (specIsInt64_z (17592186043904) (a) _ _ (HY1.out.z) (by omega)).mono ?_
  rintro e w2 ⟨he, y2, rfl, hy⟩
  clear cb00' cb01' cb10' cb11'
  replace HZ0 := Lib.hid (HZ0.out.ext he)
  replace HZ1 := Lib.hid (HZ1.out.ext he)
  replace HY1 := Lib.hid (HY1.out.ext he)
  replace HE := Lib.hid (HE.out.trans he)
  replace cb00 := he.cell cb00
  replace cb01 := he.cell cb01
  replace cb10 := he.cell cb10
  replace cb11 := he.cell cb11
  clear he
  obtain rfl : y2 = .bool true := hy.trans (by rw [HI_a.out])
  have cb00' := fun o => (Ext.alloc w2 o).cell cb00
  have cb01' := fun o => (Ext.alloc w2 o).cell cb01
  have cb10' := fun o => (Ext.alloc w2 o).cell cb10
  have cb11' := fun o => (Ext.alloc w2 o).cell cb11
  go_wp2_with fail
  refine (toSpec_z (17592186043904) (b) _ _ (HZ1.out) (by omega)).mono ?_
  rintro e w3 ⟨he, y3, rfl, hy⟩
  clear cb00' cb01' cb10' cb11'
  replace HZ0 := Lib.hid (HZ0.out.ext he)
  replace HZ1 := Lib.hid (HZ1.out.ext he)
  replace HY1 := Lib.hid (HY1.out.ext he)
  replace HE := Lib.hid (HE.out.trans he)
  replace cb00 := he.cell cb00
  replace cb01 := he.cell cb01
  replace cb10 := he.cell cb10
  replace cb11 := he.cell cb11
  clear he
  have HY3 := Lib.hid hy
  clear hy
  obtain ⟨m3, aa3, ll3, cc3, rfl⟩ := HY3.out.form
  have cb00' := fun o => (Ext.alloc w3 o).cell cb00
  have cb01' := fun o => (Ext.alloc w3 o).cell cb01
  have cb10' := fun o => (Ext.alloc w3 o).cell cb10
  have cb11' := fun o => (Ext.alloc w3 o).cell cb11
  go_wp2_with fail
  refine (specIsInt64_z (17592186043904) (b) _ _ (HY3.out.z) (by omega)).mono ?_
  rintro e w4 ⟨he, y4, rfl, hy⟩
  clear cb00' cb01' cb10' cb11'
  replace HZ0 := Lib.hid (HZ0.out.ext he)
  replace HZ1 := Lib.hid (HZ1.out.ext he)
  replace HY1 := Lib.hid (HY1.out.ext he)
  replace HY3 := Lib.hid (HY3.out.ext he)
  replace HE := Lib.hid (HE.out.trans he)
  replace cb00 := he.cell cb00
  replace cb01 := he.cell cb01
  replace cb10 := he.cell cb10
  replace cb11 := he.cell cb11
  clear he
  obtain rfl : y4 = .bool true := hy.trans (by rw [HI_b.out])
  have cb00' := fun o => (Ext.alloc w4 o).cell cb00
  have cb01' := fun o => (Ext.alloc w4 o).cell cb01
  have cb10' := fun o => (Ext.alloc w4 o).cell cb10
  have cb11' := fun o => (Ext.alloc w4 o).cell cb11
  go_wp2_with fail
  refine (toImpl_z (17592186043904) (a) _ _ (HZ0.out) (by omega)).mono ?_
  rintro e w5 ⟨he, y5, rfl, hy⟩
  clear cb00' cb01' cb10' cb11'
  replace HZ0 := Lib.hid (HZ0.out.ext he)
  replace HZ1 := Lib.hid (HZ1.out.ext he)
  replace HY1 := Lib.hid (HY1.out.ext he)
  replace HY3 := Lib.hid (HY3.out.ext he)
  replace HE := Lib.hid (HE.out.trans he)
  replace cb00 := he.cell cb00
  replace cb01 := he.cell cb01
  replace cb10 := he.cell cb10
  replace cb11 := he.cell cb11
  clear he
  have HY5 := Lib.hid hy
  clear hy
  obtain ⟨m5, aa5, ll5, cc5, rfl⟩ := HY5.out.form
  have cb00' := fun o => (Ext.alloc w5 o).cell cb00
  have cb01' := fun o => (Ext.alloc w5 o).cell cb01
  have cb10' := fun o => (Ext.alloc w5 o).cell cb10
  have cb11' := fun o => (Ext.alloc w5 o).cell cb11
  go_wp2_with fail
  refine (implInt64_z (17592186043904) (a) _ _ (HY5.out.z) (by omega) (HI_a.out)).mono ?_
  rintro e w6 ⟨he, y6, rfl, hy⟩
  clear cb00' cb01' cb10' cb11'
  replace HZ0 := Lib.hid (HZ0.out.ext he)
  replace HZ1 := Lib.hid (HZ1.out.ext he)
  replace HY1 := Lib.hid (HY1.out.ext he)
  replace HY3 := Lib.hid (HY3.out.ext he)
  replace HY5 := Lib.hid (HY5.out.ext he)
  replace HE := Lib.hid (HE.out.trans he)
  replace cb00 := he.cell cb00
  replace cb01 := he.cell cb01
  replace cb10 := he.cell cb10
  replace cb11 := he.cell cb11
  clear he
  obtain rfl : y6 = .int .i64 (a) := hy
  have cb00' := fun o => (Ext.alloc w6 o).cell cb00
  have cb01' := fun o => (Ext.alloc w6 o).cell cb01
  have cb10' := fun o => (Ext.alloc w6 o).cell cb10
  have cb11' := fun o => (Ext.alloc w6 o).cell cb11
  go_wp2_with fail
  refine (toImpl_z (17592186043904) (b) _ _ (HZ1.out) (by omega)).mono ?_
  rintro e w7 ⟨he, y7, rfl, hy⟩
  clear cb00' cb01' cb10' cb11'
  replace HZ0 := Lib.hid (HZ0.out.ext he)
  replace HZ1 := Lib.hid (HZ1.out.ext he)
  replace HY1 := Lib.hid (HY1.out.ext he)
  replace HY3 := Lib.hid (HY3.out.ext he)
  replace HY5 := Lib.hid (HY5.out.ext he)
  replace HE := Lib.hid (HE.out.trans he)
  replace cb00 := he.cell cb00
  replace cb01 := he.cell cb01
  replace cb10 := he.cell cb10
  replace cb11 := he.cell cb11
  clear he
  have HY7 := Lib.hid hy
  clear hy
  obtain ⟨m7, aa7, ll7, cc7, rfl⟩ := HY7.out.form
  have cb00' := fun o => (Ext.alloc w7 o).cell cb00
  have cb01' := fun o => (Ext.alloc w7 o).cell cb01
  have cb10' := fun o => (Ext.alloc w7 o).cell cb10
  have cb11' := fun o => (Ext.alloc w7 o).cell cb11
  go_wp2_with fail
  refine (implInt64_z (17592186043904) (b) _ _ (HY7.out.z) (by omega) (HI_b.out)).mono ?_
  rintro e w8 ⟨he, y8, rfl, hy⟩
  clear cb00' cb01' cb10' cb11'
  replace HZ0 := Lib.hid (HZ0.out.ext he)
  replace HZ1 := Lib.hid (HZ1.out.ext he)
  replace HY1 := Lib.hid (HY1.out.ext he)
  replace HY3 := Lib.hid (HY3.out.ext he)
  replace HY5 := Lib.hid (HY5.out.ext he)
  replace HY7 := Lib.hid (HY7.out.ext he)
  replace HE := Lib.hid (HE.out.trans he)
  replace cb00 := he.cell cb00
  replace cb01 := he.cell cb01
  replace cb10 := he.cell cb10
  replace cb11 := he.cell cb11
  clear he
  obtain rfl : y8 = .int .i64 (b) := hy
  have cb00' := fun o => (Ext.alloc w8 o).cell cb00
  have cb01' := fun o => (Ext.alloc w8 o).cell cb01
  have cb10' := fun o => (Ext.alloc w8 o).cell cb10
  have cb11' := fun o => (Ext.alloc w8 o).cell cb11
  go_wp2_with fail
  refine (compare_z (17592186043904) (17592186043904) (a) (b) _ _ _ (HZ0.out) (HZ1.out) (by omega) (by omega)).mono ?_
  rintro e w9 ⟨he, y9, rfl, hy⟩
  clear cb00' cb01' cb10' cb11'
  replace HZ0 := Lib.hid (HZ0.out.ext he)
  replace HZ1 := Lib.hid (HZ1.out.ext he)
  replace HY1 := Lib.hid (HY1.out.ext he)
  replace HY3 := Lib.hid (HY3.out.ext he)
  replace HY5 := Lib.hid (HY5.out.ext he)
  replace HY7 := Lib.hid (HY7.out.ext he)
  replace HE := Lib.hid (HE.out.trans he)
  replace cb00 := he.cell cb00
  replace cb01 := he.cell cb01
  replace cb10 := he.cell cb10
  replace cb11 := he.cell cb11
  clear he
  obtain rfl : y9 = .int .i64 0 := hy.trans (by rw [cmpZ_eq HC.out])
  have cb00' := fun o => (Ext.alloc w9 o).cell cb00
  have cb01' := fun o => (Ext.alloc w9 o).cell cb01
  have cb10' := fun o => (Ext.alloc w9 o).cell cb10
  have cb11' := fun o => (Ext.alloc w9 o).cell cb11
  go_wp2_with fail
  refine (same_z (17592186043904) (17592186043904) (a) (b) _ _ _ (HZ0.out) (HZ1.out) (by omega) (by omega)).mono ?_
  rintro e w10 ⟨he, y10, rfl, hy⟩
  clear cb00' cb01' cb10' cb11'
  replace HZ0 := Lib.hid (HZ0.out.ext he)
  replace HZ1 := Lib.hid (HZ1.out.ext he)
  replace HY1 := Lib.hid (HY1.out.ext he)
  replace HY3 := Lib.hid (HY3.out.ext he)
  replace HY5 := Lib.hid (HY5.out.ext he)
  replace HY7 := Lib.hid (HY7.out.ext he)
  replace HE := Lib.hid (HE.out.trans he)
  replace cb00 := he.cell cb00
  replace cb01 := he.cell cb01
  replace cb10 := he.cell cb10
  replace cb11 := he.cell cb11
  clear he
  obtain rfl : y10 = .bool true := hy.trans (by have := HC.out; simp; omega)
  have cb00' := fun o => (Ext.alloc w10 o).cell cb00
  have cb01' := fun o => (Ext.alloc w10 o).cell cb01
  have cb10' := fun o => (Ext.alloc w10 o).cell cb10
  have cb11' := fun o => (Ext.alloc w10 o).cell cb11
  go_wp2_with fail
  go_ret
  exact ⟨HE.out, rfl⟩

set_option maxHeartbeats 1000000 in
theorem fnInt64Order_5  (n0 : Bool) (v0 : Value) (ws0 : List Nat) (n1 : Bool) (v1 : Value) (ws1 : List Nat) (w : World) (hr0 : Rd .u64 w v0 ws0) (hl0 : ws0.length ≤ 17592186043904) (hr1 : Rd .u64 w v1 ws1) (hl1 : ws1.length ≤ 17592186043904) (hc : isI (ival n0 ws0) = true ∧ isI (ival n1 ws1) = true ∧ (ival n1 ws1) < (ival n0 ws0)) :
    Calls Try.prog 9 #[.agg #[.bool n0, v0], .agg #[.bool n1, v1]] w (ValR (.bool true) w) := by
  obtain ⟨a0, c0, rfl⟩ := hr0.form
  have hz0 : IsZ 17592186043904 (ival n0 ws0) (.agg #[.bool n0, .slice a0 ws0.length c0]) w := ⟨n0, _, ws0, rfl, hr0, hl0, rfl⟩
  generalize hg0 : ival n0 ws0 = a at hz0
  have HZ0 := Lib.hid hz0
  have HG0 := Lib.hid hg0
  clear hz0 hg0 hr0
  obtain ⟨a1, c1, rfl⟩ := hr1.form
  have hz1 : IsZ 17592186043904 (ival n1 ws1) (.agg #[.bool n1, .slice a1 ws1.length c1]) w := ⟨n1, _, ws1, rfl, hr1, hl1, rfl⟩
  generalize hg1 : ival n1 ws1 = b at hz1
  have HZ1 := Lib.hid hz1
  have HG1 := Lib.hid hg1
  clear hz1 hg1 hr1
  simp only [HG0.out, HG1.out] at hc
  have HI_a := Lib.hid hc.1
  have HI_b := Lib.hid hc.2.1
  have HC := Lib.hid hc.2.2
  have b1 : decide (a < b) = false := by have := hc.2.2; simp; omega
  have b2 : decide (b < a) = true := by have := hc.2.2; simp; omega
  have b3 : (a == b) = false := by have := hc.2.2; simp; omega
  clear hc

  go_enter Try.func9, Try.ntmps9
  go_wp2_with fail
  refine (toSpec_z (17592186043904) (a) _ _ ((HZ0.out.ext ((Ext.alloc _ _).trans (Ext.alloc _ _)))) (by omega)).mono ?_
  rintro e w1 ⟨he, y1, rfl, hy⟩
  replace HZ0 := Lib.hid (HZ0.out.ext (((Ext.alloc _ _).trans (Ext.alloc _ _)).trans he))
  replace HZ1 := Lib.hid (HZ1.out.ext (((Ext.alloc _ _).trans (Ext.alloc _ _)).trans he))
  have HE := Lib.hid (((Ext.alloc _ _).trans (Ext.alloc _ _)).trans he)
  have hb := he.block ((Ext.alloc _ _).block (heap_alloc_new _ _))
  have cb00 := blk_cell hb 0
  have cb01 := blk_cell hb 1
  simp at cb00 cb01
  clear hb
  have hb := he.block (heap_second _ _ _)
  have cb10 := blk_cell hb 0
  have cb11 := blk_cell hb 1
  simp at cb10 cb11
  clear hb
  clear he
  have HY1 := Lib.hid hy
  clear hy
  obtain ⟨m1, aa1, ll1, cc1, rfl⟩ := HY1.out.form
  have cb00' := fun o => (Ext.alloc w1 o).cell cb00
  have cb01' := fun o => (Ext.alloc w1 o).cell cb01
  have cb10' := fun o => (Ext.alloc w1 o).cell cb10
  have cb11' := fun o => (Ext.alloc w1 o).cell cb11
  go_wp2_with fail
  refine (specIsInt64_z (17592186043904) (a) _ _ (HY1.out.z) (by omega)).mono ?_
  rintro e w2 ⟨he, y2, rfl, hy⟩
  clear cb00' cb01' cb10' cb11'
  replace HZ0 := Lib.hid (HZ0.out.ext he)
  replace HZ1 := Lib.hid (HZ1.out.ext he)
  replace HY1 := Lib.hid (HY1.out.ext he)
  replace HE := Lib.hid (HE.out.trans he)
  replace cb00 := he.cell cb00
  replace cb01 := he.cell cb01
  replace cb10 := he.cell cb10
  replace cb11 := he.cell cb11
  clear he
  obtain rfl : y2 = .bool true := hy.trans (by rw [HI_a.out])
  have cb00' := fun o => (Ext.alloc w2 o).cell cb00
  have cb01' := fun o => (Ext.alloc w2 o).cell cb01
  have cb10' := fun o => (Ext.alloc w2 o).cell cb10
  have cb11' := fun o => (Ext.alloc w2 o).cell cb11
  go_wp2_with fail
  refine (toSpec_z (17592186043904) (b) _ _ (HZ1.out) (by omega)).mono ?_
  rintro e w3 ⟨he, y3, rfl, hy⟩
  clear cb00' cb01' cb10' cb11'
  replace HZ0 := Lib.hid (HZ0.out.ext he)
  replace HZ1 := Lib.hid (HZ1.out.ext he)
  replace HY1 := Lib.hid (HY1.out.ext he)
  replace HE := Lib.hid (HE.out.trans he)
  replace cb00 := he.cell cb00
  replace cb01 := he.cell cb01
  replace cb10 := he.cell cb10
  replace cb11 := he.cell cb11
  clear he
  have HY3 := Lib.hid hy
  clear hy
  obtain ⟨m3, aa3, ll3, cc3, rfl⟩ := HY3.out.form
  have cb00' := fun o => (Ext.alloc w3 o).cell cb00
  have cb01' := fun o => (Ext.alloc w3 o).cell cb01
  have cb10' := fun o => (Ext.alloc w3 o).cell cb10
  have cb11' := fun o => (Ext.alloc w3 o).cell cb11
  go_wp2_with fail
  refine (specIsInt64_z (17592186043904) (b) _ _ (HY3.out.z) (by omega)).mono ?_
  rintro e w4 ⟨he, y4, rfl, hy⟩
  clear cb00' cb01' cb10' cb11'
  replace HZ0 := Lib.hid (HZ0.out.ext he)
  replace HZ1 := Lib.hid (HZ1.out.ext he)
  replace HY1 := Lib.hid (HY1.out.ext he)
  replace HY3 := Lib.hid (HY3.out.ext he)
  replace HE := Lib.hid (HE.out.trans he)
  replace cb00 := he.cell cb00
  replace cb01 := he.cell cb01
  replace cb10 := he.cell cb10
  replace cb11 := he.cell cb11
  clear he
  obtain rfl : y4 = .bool true := hy.trans (by rw [HI_b.out])
  have cb00' := fun o => (Ext.alloc w4 o).cell cb00
  have cb01' := fun o => (Ext.alloc w4 o).cell cb01
  have cb10' := fun o => (Ext.alloc w4 o).cell cb10
  have cb11' := fun o => (Ext.alloc w4 o).cell cb11
  go_wp2_with fail
  refine (toImpl_z (17592186043904) (a) _ _ (HZ0.out) (by omega)).mono ?_
  rintro e w5 ⟨he, y5, rfl, hy⟩
  clear cb00' cb01' cb10' cb11'
  replace HZ0 := Lib.hid (HZ0.out.ext he)
  replace HZ1 := Lib.hid (HZ1.out.ext he)
  replace HY1 := Lib.hid (HY1.out.ext he)
  replace HY3 := Lib.hid (HY3.out.ext he)
  replace HE := Lib.hid (HE.out.trans he)
  replace cb00 := he.cell cb00
  replace cb01 := he.cell cb01
  replace cb10 := he.cell cb10
  replace cb11 := he.cell cb11
  clear he
  have HY5 := Lib.hid hy
  clear hy
  obtain ⟨m5, aa5, ll5, cc5, rfl⟩ := HY5.out.form
  have cb00' := fun o => (Ext.alloc w5 o).cell cb00
  have cb01' := fun o => (Ext.alloc w5 o).cell cb01
  have cb10' := fun o => (Ext.alloc w5 o).cell cb10
  have cb11' := fun o => (Ext.alloc w5 o).cell cb11
  go_wp2_with fail
  refine (implInt64_z (17592186043904) (a) _ _ (HY5.out.z) (by omega) (HI_a.out)).mono ?_
  rintro e w6 ⟨he, y6, rfl, hy⟩
  clear cb00' cb01' cb10' cb11'
  replace HZ0 := Lib.hid (HZ0.out.ext he)
  replace HZ1 := Lib.hid (HZ1.out.ext he)
  replace HY1 := Lib.hid (HY1.out.ext he)
  replace HY3 := Lib.hid (HY3.out.ext he)
  replace HY5 := Lib.hid (HY5.out.ext he)
  replace HE := Lib.hid (HE.out.trans he)
  replace cb00 := he.cell cb00
  replace cb01 := he.cell cb01
  replace cb10 := he.cell cb10
  replace cb11 := he.cell cb11
  clear he
  obtain rfl : y6 = .int .i64 (a) := hy
  have cb00' := fun o => (Ext.alloc w6 o).cell cb00
  have cb01' := fun o => (Ext.alloc w6 o).cell cb01
  have cb10' := fun o => (Ext.alloc w6 o).cell cb10
  have cb11' := fun o => (Ext.alloc w6 o).cell cb11
  go_wp2_with fail
  refine (toImpl_z (17592186043904) (b) _ _ (HZ1.out) (by omega)).mono ?_
  rintro e w7 ⟨he, y7, rfl, hy⟩
  clear cb00' cb01' cb10' cb11'
  replace HZ0 := Lib.hid (HZ0.out.ext he)
  replace HZ1 := Lib.hid (HZ1.out.ext he)
  replace HY1 := Lib.hid (HY1.out.ext he)
  replace HY3 := Lib.hid (HY3.out.ext he)
  replace HY5 := Lib.hid (HY5.out.ext he)
  replace HE := Lib.hid (HE.out.trans he)
  replace cb00 := he.cell cb00
  replace cb01 := he.cell cb01
  replace cb10 := he.cell cb10
  replace cb11 := he.cell cb11
  clear he
  have HY7 := Lib.hid hy
  clear hy
  obtain ⟨m7, aa7, ll7, cc7, rfl⟩ := HY7.out.form
  have cb00' := fun o => (Ext.alloc w7 o).cell cb00
  have cb01' := fun o => (Ext.alloc w7 o).cell cb01
  have cb10' := fun o => (Ext.alloc w7 o).cell cb10
  have cb11' := fun o => (Ext.alloc w7 o).cell cb11
  go_wp2_with fail
  refine (implInt64_z (17592186043904) (b) _ _ (HY7.out.z) (by omega) (HI_b.out)).mono ?_
  rintro e w8 ⟨he, y8, rfl, hy⟩
  clear cb00' cb01' cb10' cb11'
  replace HZ0 := Lib.hid (HZ0.out.ext he)
  replace HZ1 := Lib.hid (HZ1.out.ext he)
  replace HY1 := Lib.hid (HY1.out.ext he)
  replace HY3 := Lib.hid (HY3.out.ext he)
  replace HY5 := Lib.hid (HY5.out.ext he)
  replace HY7 := Lib.hid (HY7.out.ext he)
  replace HE := Lib.hid (HE.out.trans he)
  replace cb00 := he.cell cb00
  replace cb01 := he.cell cb01
  replace cb10 := he.cell cb10
  replace cb11 := he.cell cb11
  clear he
  obtain rfl : y8 = .int .i64 (b) := hy
  have cb00' := fun o => (Ext.alloc w8 o).cell cb00
  have cb01' := fun o => (Ext.alloc w8 o).cell cb01
  have cb10' := fun o => (Ext.alloc w8 o).cell cb10
  have cb11' := fun o => (Ext.alloc w8 o).cell cb11
  go_wp2_with fail
  refine (compare_z (17592186043904) (17592186043904) (a) (b) _ _ _ (HZ0.out) (HZ1.out) (by omega) (by omega)).mono ?_
  rintro e w9 ⟨he, y9, rfl, hy⟩
  clear cb00' cb01' cb10' cb11'
  replace HZ0 := Lib.hid (HZ0.out.ext he)
  replace HZ1 := Lib.hid (HZ1.out.ext he)
  replace HY1 := Lib.hid (HY1.out.ext he)
  replace HY3 := Lib.hid (HY3.out.ext he)
  replace HY5 := Lib.hid (HY5.out.ext he)
  replace HY7 := Lib.hid (HY7.out.ext he)
  replace HE := Lib.hid (HE.out.trans he)
  replace cb00 := he.cell cb00
  replace cb01 := he.cell cb01
  replace cb10 := he.cell cb10
  replace cb11 := he.cell cb11
  clear he
  obtain rfl : y9 = .int .i64 1 := hy.trans (by rw [cmpZ_gt HC.out])
  have cb00' := fun o => (Ext.alloc w9 o).cell cb00
  have cb01' := fun o => (Ext.alloc w9 o).cell cb01
  have cb10' := fun o => (Ext.alloc w9 o).cell cb10
  have cb11' := fun o => (Ext.alloc w9 o).cell cb11
  go_wp2_with fail
  refine (same_z (17592186043904) (17592186043904) (a) (b) _ _ _ (HZ0.out) (HZ1.out) (by omega) (by omega)).mono ?_
  rintro e w10 ⟨he, y10, rfl, hy⟩
  clear cb00' cb01' cb10' cb11'
  replace HZ0 := Lib.hid (HZ0.out.ext he)
  replace HZ1 := Lib.hid (HZ1.out.ext he)
  replace HY1 := Lib.hid (HY1.out.ext he)
  replace HY3 := Lib.hid (HY3.out.ext he)
  replace HY5 := Lib.hid (HY5.out.ext he)
  replace HY7 := Lib.hid (HY7.out.ext he)
  replace HE := Lib.hid (HE.out.trans he)
  replace cb00 := he.cell cb00
  replace cb01 := he.cell cb01
  replace cb10 := he.cell cb10
  replace cb11 := he.cell cb11
  clear he
  obtain rfl : y10 = .bool false := hy.trans (by have := HC.out; simp; omega)
  have cb00' := fun o => (Ext.alloc w10 o).cell cb00
  have cb01' := fun o => (Ext.alloc w10 o).cell cb01
  have cb10' := fun o => (Ext.alloc w10 o).cell cb10
  have cb11' := fun o => (Ext.alloc w10 o).cell cb11
  go_wp2_with fail
  go_ret
  exact ⟨HE.out, rfl⟩

theorem fnInt64Order_walk (n0 : Bool) (v0 : Value) (ws0 : List Nat) (n1 : Bool) (v1 : Value) (ws1 : List Nat) (w : World) (hr0 : Rd .u64 w v0 ws0) (hl0 : ws0.length ≤ 17592186043904) (hr1 : Rd .u64 w v1 ws1) (hl1 : ws1.length ≤ 17592186043904) :
    Calls Try.prog 9 #[.agg #[.bool n0, v0], .agg #[.bool n1, v1]] w (ValR (.bool true) w) := by
  rcases h1 : isI (ival n0 ws0) with _ | _
  · exact fnInt64Order_1 n0 v0 ws0 n1 v1 ws1 w hr0 hl0 hr1 hl1 h1
  · rcases h2 : isI (ival n1 ws1) with _ | _
    · exact fnInt64Order_2 n0 v0 ws0 n1 v1 ws1 w hr0 hl0 hr1 hl1 ⟨h1, h2⟩
    · rcases Int.lt_trichotomy (ival n0 ws0) (ival n1 ws1) with h | h | h
      · exact fnInt64Order_3 n0 v0 ws0 n1 v1 ws1 w hr0 hl0 hr1 hl1 ⟨h1, h2, h⟩
      · exact fnInt64Order_4 n0 v0 ws0 n1 v1 ws1 w hr0 hl0 hr1 hl1 ⟨h1, h2, h⟩
      · exact fnInt64Order_5 n0 v0 ws0 n1 v1 ws1 w hr0 hl0 hr1 hl1 ⟨h1, h2, h⟩

set_option maxHeartbeats 1000000 in
theorem fnSigns_walk_n (n0 : Bool) (v0 : Value) (ws0 : List Nat) (w : World) (hr0 : Rd .u64 w v0 ws0) (hl0 : ws0.length ≤ 17592186043904) (hc : (ival n0 ws0) < 0) :
    Calls Try.prog 11 #[.agg #[.bool n0, v0]] w (ValR (.bool true) w) := by
  obtain ⟨a0, c0, rfl⟩ := hr0.form
  have hz0 : IsZ 17592186043904 (ival n0 ws0) (.agg #[.bool n0, .slice a0 ws0.length c0]) w := ⟨n0, _, ws0, rfl, hr0, hl0, rfl⟩
  generalize hg0 : ival n0 ws0 = z at hz0
  have HZ0 := Lib.hid hz0
  have HG0 := Lib.hid hg0
  clear hz0 hg0 hr0
  have HC : Hid (z < 0) := by simp only [HG0.out] at hc; exact hc
  clear hc
  go_enter Try.func11, Try.ntmps11
  go_wp2_with fail
  refine wp_region_D preExt mixed [IsZ (17592186043904) (z), Is (.int .i64 (-1)), IsZ (17592186043904) (z), IsW (1) (0), Is (.int .i64 (-1)), Is (.bool true), Is (.bool true), IsZ (17592186043904) (z), IsC (17592186043904) (-(z)), Is (.int .i64 1), IsZ (17592186043904) (z), Is (.int .i64 (-1)), Is (.int .i64 1), Is (.bool true), Is (.bool true), Is (.bool true), IsZ (17592186043904) (z), IsC (17592186043904) (((z).natAbs : Int)), Is (.int .i64 1), IsZ (17592186043904) (z), Is (.int .i64 (-1)), IsZ (17592186043904) (z), Is (.int .i64 (-1)), Is (.int .i64 1), Is (.bool true), Is (.bool true), Is (.bool true), IsZ (17592186043904) (z), IsC (17592186043904) (((z).natAbs : Int)), IsC (17592186043904) (((((z).natAbs : Int)).natAbs : Int)), IsZ (17592186043904) (z), IsC (17592186043904) (((z).natAbs : Int)), Is (.bool true), Is (.bool true), Is (.bool true), IsZ (17592186043904) (z), Is (.int .i64 (-1)), Is (.bool false), IsZ (17592186043904) (z), Is (.bool false), Is (.bool true), Is (.bool true)] (by kernel_rfl) ?mono rfl ?steps ?last
  case mono =>
    simp only [List.forall_mem_cons, List.not_mem_nil, false_implies, implies_true, and_true]
    refine ⟨?_, ?_, ?_, ?_, ?_, ?_, ?_, ?_, ?_, ?_, ?_, ?_, ?_, ?_, ?_, ?_, ?_, ?_, ?_, ?_, ?_, ?_, ?_, ?_, ?_, ?_, ?_, ?_, ?_, ?_, ?_, ?_, ?_, ?_, ?_, ?_, ?_, ?_, ?_, ?_, ?_, ?_⟩
    all_goals first | exact fun _ _ _ _ q => q | exact fun _ _ _ he q => q.ext he
  case steps =>
    refine ⟨?_, ?_, ?_, ?_, ?_, ?_, ?_, ?_, ?_, ?_, ?_, ?_, ?_, ?_, ?_, ?_, ?_, ?_, ?_, ?_, ?_, ?_, ?_, ?_, ?_, ?_, ?_, ?_, ?_, ?_, ?_, ?_, ?_, ?_, ?_, ?_, ?_, ?_, ?_, ?_, ?_, ?_, trivial⟩
    all_goals
      intro u0 u1 u2 u3 u4 u5 u6 u7 u8 u9 u10 u11 u12 u13 u14 u15 u16 u17 u18 u19 u20 u21 u22 u23 u24 u25 u26 u27 u28 u29 u30 u31 u32 u33 u34 u35 u36 u37 u38 u39 u40 u41 u42 w1 he hk
      simp [KnownD, Oper.looksAt, Op.operands, Call.operands, List.findIdx?_cons, Act.put] at hk
      simp only [Act.put, List.setIfInBounds_toArray, List.set_cons_succ, List.set_cons_zero]
    · have hb := he.block (heap_alloc_new _ _)
      have hc0 := blk_cell hb 0
      have hc1 := blk_cell hb 1
      simp at hc0 hc1
      clear hb
      go_wp2_with fail
      exact ⟨rfl, Ext.refl _, HZ0.out.ext ((Ext.alloc _ _).trans he)⟩
    · have k0 := hk
      have H0 := Lib.hid k0
      clear k0
      go_wp2_with fail
      refine (sign_z (17592186043904) (z) _ _ (H0.out) (by omega)).mono ?_
      rintro e w2 ⟨he2, x, rfl, hx⟩
      obtain rfl : x = .int .i64 (-1) := hx.trans (by rw [show sgnZ (z) = -1 by unfold sgnZ; have := HC.out; split <;> (try split) <;> omega])
      go_wp2_with fail
      exact ⟨rfl, he2, rfl⟩
    · have hb := he.block (heap_alloc_new _ _)
      have hc0 := blk_cell hb 0
      have hc1 := blk_cell hb 1
      simp at hc0 hc1
      clear hb
      go_wp2_with fail
      exact ⟨rfl, Ext.refl _, HZ0.out.ext ((Ext.alloc _ _).trans he)⟩
    · go_wp2_with fail
      refine (of_z (0) _ (by omega) (by omega)).mono ?_
      rintro e w2 ⟨he2, x, rfl, hx⟩
      have HX := Lib.hid hx
      clear hx
      go_wp2_with fail
      exact ⟨rfl, he2, HX.out⟩
    · obtain ⟨k0, k1⟩ := hk
      have H0 := Lib.hid k0
      have H1 := Lib.hid k1
      clear k0 k1
      go_wp2_with fail
      refine (compare_z (17592186043904) (1) (z) (0) _ _ _ (H0.out) (H1.out.z) (by omega) (by omega)).mono ?_
      rintro e w2 ⟨he2, x, rfl, hx⟩
      obtain rfl : x = .int .i64 (-1) := hx.trans (by rw [cmpZ_lt (by have := HC.out; omega)])
      go_wp2_with fail
      exact ⟨rfl, he2, rfl⟩
    · obtain ⟨k0, k1⟩ := hk
      obtain rfl : u1 = .int .i64 (-1) := k0
      obtain rfl : u4 = .int .i64 (-1) := k1
      go_wp2_with fail
      exact ⟨rfl, Ext.refl _, by show (_ : Value) = _; (simp); try rfl⟩
    · have k0 := hk
      obtain rfl : u5 = .bool true := k0
      go_wp2_with fail
      exact ⟨rfl, Ext.refl _, by show (_ : Value) = _; (first | rfl | simp); try rfl⟩
    · have k0 := hk
      obtain rfl : u6 = .bool true := k0
      have hb := he.block (heap_alloc_new _ _)
      have hc0 := blk_cell hb 0
      have hc1 := blk_cell hb 1
      simp at hc0 hc1
      clear hb
      go_wp2_with fail
      exact ⟨rfl, Ext.refl _, HZ0.out.ext ((Ext.alloc _ _).trans he)⟩
    · obtain ⟨k0, k1⟩ := hk
      obtain rfl : u6 = .bool true := k1
      have H0 := Lib.hid k0
      clear k0
      go_wp2_with fail
      refine (neg_z (17592186043904) (z) _ _ (H0.out) (by omega)).mono ?_
      rintro e w2 ⟨he2, x, rfl, hx⟩
      have HX := Lib.hid hx
      clear hx
      go_wp2_with fail
      exact ⟨rfl, he2, HX.out⟩
    · obtain ⟨k0, k1⟩ := hk
      obtain rfl : u6 = .bool true := k1
      have H0 := Lib.hid k0
      clear k0
      go_wp2_with fail
      refine (sign_z (17592186043904) (-(z)) _ _ (H0.out.z) (by omega)).mono ?_
      rintro e w2 ⟨he2, x, rfl, hx⟩
      obtain rfl : x = .int .i64 1 := hx.trans (by rw [show sgnZ (-(z)) = 1 by unfold sgnZ; have := HC.out; split <;> (try split) <;> omega])
      go_wp2_with fail
      exact ⟨rfl, he2, rfl⟩
    · have k0 := hk
      obtain rfl : u6 = .bool true := k0
      have hb := he.block (heap_alloc_new _ _)
      have hc0 := blk_cell hb 0
      have hc1 := blk_cell hb 1
      simp at hc0 hc1
      clear hb
      go_wp2_with fail
      exact ⟨rfl, Ext.refl _, HZ0.out.ext ((Ext.alloc _ _).trans he)⟩
    · obtain ⟨k0, k1⟩ := hk
      obtain rfl : u6 = .bool true := k1
      have H0 := Lib.hid k0
      clear k0
      go_wp2_with fail
      refine (sign_z (17592186043904) (z) _ _ (H0.out) (by omega)).mono ?_
      rintro e w2 ⟨he2, x, rfl, hx⟩
      obtain rfl : x = .int .i64 (-1) := hx.trans (by rw [show sgnZ (z) = -1 by unfold sgnZ; have := HC.out; split <;> (try split) <;> omega])
      go_wp2_with fail
      exact ⟨rfl, he2, rfl⟩
    · obtain ⟨k0, k1⟩ := hk
      obtain rfl : u11 = .int .i64 (-1) := k0
      obtain rfl : u6 = .bool true := k1
      go_wp2_with fail
      exact ⟨rfl, Ext.refl _, by show (_ : Value) = _; (simp); try rfl⟩
    · obtain ⟨k0, k1, k2⟩ := hk
      obtain rfl : u9 = .int .i64 1 := k0
      obtain rfl : u12 = .int .i64 1 := k1
      obtain rfl : u6 = .bool true := k2
      go_wp2_with fail
      exact ⟨rfl, Ext.refl _, by show (_ : Value) = _; (simp); try rfl⟩
    · obtain ⟨k0, k1⟩ := hk
      obtain rfl : u6 = .bool true := k0
      obtain rfl : u13 = .bool true := k1
      go_wp2_with fail
      exact ⟨rfl, Ext.refl _, by show (_ : Value) = _; (first | rfl | simp); try rfl⟩
    · have k0 := hk
      obtain rfl : u14 = .bool true := k0
      go_wp2_with fail
      exact ⟨rfl, Ext.refl _, by show (_ : Value) = _; (first | rfl | simp); try rfl⟩
    · have k0 := hk
      obtain rfl : u15 = .bool true := k0
      have hb := he.block (heap_alloc_new _ _)
      have hc0 := blk_cell hb 0
      have hc1 := blk_cell hb 1
      simp at hc0 hc1
      clear hb
      go_wp2_with fail
      exact ⟨rfl, Ext.refl _, HZ0.out.ext ((Ext.alloc _ _).trans he)⟩
    · obtain ⟨k0, k1⟩ := hk
      obtain rfl : u15 = .bool true := k1
      have H0 := Lib.hid k0
      clear k0
      go_wp2_with fail
      refine (abs_z (17592186043904) (z) _ _ (H0.out) (by omega)).mono ?_
      rintro e w2 ⟨he2, x, rfl, hx⟩
      have HX := Lib.hid hx
      clear hx
      go_wp2_with fail
      exact ⟨rfl, he2, HX.out⟩
    · obtain ⟨k0, k1⟩ := hk
      obtain rfl : u15 = .bool true := k1
      have H0 := Lib.hid k0
      clear k0
      go_wp2_with fail
      refine (sign_z (17592186043904) (((z).natAbs : Int)) _ _ (H0.out.z) (by omega)).mono ?_
      rintro e w2 ⟨he2, x, rfl, hx⟩
      obtain rfl : x = .int .i64 1 := hx.trans (by rw [show sgnZ (((z).natAbs : Int)) = 1 by unfold sgnZ; have := HC.out; split <;> (try split) <;> omega])
      go_wp2_with fail
      exact ⟨rfl, he2, rfl⟩
    · have k0 := hk
      obtain rfl : u15 = .bool true := k0
      have hb := he.block (heap_alloc_new _ _)
      have hc0 := blk_cell hb 0
      have hc1 := blk_cell hb 1
      simp at hc0 hc1
      clear hb
      go_wp2_with fail
      exact ⟨rfl, Ext.refl _, HZ0.out.ext ((Ext.alloc _ _).trans he)⟩
    · obtain ⟨k0, k1⟩ := hk
      obtain rfl : u15 = .bool true := k1
      have H0 := Lib.hid k0
      clear k0
      go_wp2_with fail
      refine (sign_z (17592186043904) (z) _ _ (H0.out) (by omega)).mono ?_
      rintro e w2 ⟨he2, x, rfl, hx⟩
      obtain rfl : x = .int .i64 (-1) := hx.trans (by rw [show sgnZ (z) = -1 by unfold sgnZ; have := HC.out; split <;> (try split) <;> omega])
      go_wp2_with fail
      exact ⟨rfl, he2, rfl⟩
    · have k0 := hk
      obtain rfl : u15 = .bool true := k0
      have hb := he.block (heap_alloc_new _ _)
      have hc0 := blk_cell hb 0
      have hc1 := blk_cell hb 1
      simp at hc0 hc1
      clear hb
      go_wp2_with fail
      exact ⟨rfl, Ext.refl _, HZ0.out.ext ((Ext.alloc _ _).trans he)⟩
    · obtain ⟨k0, k1⟩ := hk
      obtain rfl : u15 = .bool true := k1
      have H0 := Lib.hid k0
      clear k0
      go_wp2_with fail
      refine (sign_z (17592186043904) (z) _ _ (H0.out) (by omega)).mono ?_
      rintro e w2 ⟨he2, x, rfl, hx⟩
      obtain rfl : x = .int .i64 (-1) := hx.trans (by rw [show sgnZ (z) = -1 by unfold sgnZ; have := HC.out; split <;> (try split) <;> omega])
      go_wp2_with fail
      exact ⟨rfl, he2, rfl⟩
    · obtain ⟨k0, k1, k2⟩ := hk
      obtain rfl : u20 = .int .i64 (-1) := k0
      obtain rfl : u22 = .int .i64 (-1) := k1
      obtain rfl : u15 = .bool true := k2
      go_wp2_with fail
      exact ⟨rfl, Ext.refl _, by show (_ : Value) = _; (simp); try rfl⟩
    · obtain ⟨k0, k1, k2⟩ := hk
      obtain rfl : u18 = .int .i64 1 := k0
      obtain rfl : u23 = .int .i64 1 := k1
      obtain rfl : u15 = .bool true := k2
      go_wp2_with fail
      exact ⟨rfl, Ext.refl _, by show (_ : Value) = _; (simp); try rfl⟩
    · obtain ⟨k0, k1⟩ := hk
      obtain rfl : u15 = .bool true := k0
      obtain rfl : u24 = .bool true := k1
      go_wp2_with fail
      exact ⟨rfl, Ext.refl _, by show (_ : Value) = _; (first | rfl | simp); try rfl⟩
    · have k0 := hk
      obtain rfl : u25 = .bool true := k0
      go_wp2_with fail
      exact ⟨rfl, Ext.refl _, by show (_ : Value) = _; (first | rfl | simp); try rfl⟩
    · have k0 := hk
      obtain rfl : u26 = .bool true := k0
      have hb := he.block (heap_alloc_new _ _)
      have hc0 := blk_cell hb 0
      have hc1 := blk_cell hb 1
      simp at hc0 hc1
      clear hb
      go_wp2_with fail
      exact ⟨rfl, Ext.refl _, HZ0.out.ext ((Ext.alloc _ _).trans he)⟩
    · obtain ⟨k0, k1⟩ := hk
      obtain rfl : u26 = .bool true := k1
      have H0 := Lib.hid k0
      clear k0
      go_wp2_with fail
      refine (abs_z (17592186043904) (z) _ _ (H0.out) (by omega)).mono ?_
      rintro e w2 ⟨he2, x, rfl, hx⟩
      have HX := Lib.hid hx
      clear hx
      go_wp2_with fail
      exact ⟨rfl, he2, HX.out⟩
    · obtain ⟨k0, k1⟩ := hk
      obtain rfl : u26 = .bool true := k1
      have H0 := Lib.hid k0
      clear k0
      go_wp2_with fail
      refine (abs_z (17592186043904) (((z).natAbs : Int)) _ _ (H0.out.z) (by omega)).mono ?_
      rintro e w2 ⟨he2, x, rfl, hx⟩
      have HX := Lib.hid hx
      clear hx
      go_wp2_with fail
      exact ⟨rfl, he2, HX.out⟩
    · have k0 := hk
      obtain rfl : u26 = .bool true := k0
      have hb := he.block (heap_alloc_new _ _)
      have hc0 := blk_cell hb 0
      have hc1 := blk_cell hb 1
      simp at hc0 hc1
      clear hb
      go_wp2_with fail
      exact ⟨rfl, Ext.refl _, HZ0.out.ext ((Ext.alloc _ _).trans he)⟩
    · obtain ⟨k0, k1⟩ := hk
      obtain rfl : u26 = .bool true := k1
      have H0 := Lib.hid k0
      clear k0
      go_wp2_with fail
      refine (abs_z (17592186043904) (z) _ _ (H0.out) (by omega)).mono ?_
      rintro e w2 ⟨he2, x, rfl, hx⟩
      have HX := Lib.hid hx
      clear hx
      go_wp2_with fail
      exact ⟨rfl, he2, HX.out⟩
    · obtain ⟨k0, k1, k2⟩ := hk
      obtain rfl : u26 = .bool true := k2
      have H0 := Lib.hid k0
      have H1 := Lib.hid k1
      clear k0 k1
      go_wp2_with fail
      refine (same_z (17592186043904) (17592186043904) (((((z).natAbs : Int)).natAbs : Int)) (((z).natAbs : Int)) _ _ _ (H0.out.z) (H1.out.z) (by omega) (by omega)).mono ?_
      rintro e w2 ⟨he2, x, rfl, hx⟩
      obtain rfl : x = .bool true := hx.trans (by simp)
      go_wp2_with fail
      exact ⟨rfl, he2, rfl⟩
    · obtain ⟨k0, k1⟩ := hk
      obtain rfl : u26 = .bool true := k0
      obtain rfl : u32 = .bool true := k1
      go_wp2_with fail
      exact ⟨rfl, Ext.refl _, by show (_ : Value) = _; (first | rfl | simp); try rfl⟩
    · have k0 := hk
      obtain rfl : u33 = .bool true := k0
      go_wp2_with fail
      exact ⟨rfl, Ext.refl _, by show (_ : Value) = _; (first | rfl | simp); try rfl⟩
    · have k0 := hk
      obtain rfl : u34 = .bool true := k0
      have hb := he.block (heap_alloc_new _ _)
      have hc0 := blk_cell hb 0
      have hc1 := blk_cell hb 1
      simp at hc0 hc1
      clear hb
      go_wp2_with fail
      exact ⟨rfl, Ext.refl _, HZ0.out.ext ((Ext.alloc _ _).trans he)⟩
    · obtain ⟨k0, k1⟩ := hk
      obtain rfl : u34 = .bool true := k1
      have H0 := Lib.hid k0
      clear k0
      go_wp2_with fail
      refine (sign_z (17592186043904) (z) _ _ (H0.out) (by omega)).mono ?_
      rintro e w2 ⟨he2, x, rfl, hx⟩
      obtain rfl : x = .int .i64 (-1) := hx.trans (by rw [show sgnZ (z) = -1 by unfold sgnZ; have := HC.out; split <;> (try split) <;> omega])
      go_wp2_with fail
      exact ⟨rfl, he2, rfl⟩
    · obtain ⟨k0, k1⟩ := hk
      obtain rfl : u36 = .int .i64 (-1) := k0
      obtain rfl : u34 = .bool true := k1
      go_wp2_with fail
      exact ⟨rfl, Ext.refl _, by show (_ : Value) = _; (simp); try rfl⟩
    · have k0 := hk
      obtain rfl : u34 = .bool true := k0
      have hb := he.block (heap_alloc_new _ _)
      have hc0 := blk_cell hb 0
      have hc1 := blk_cell hb 1
      simp at hc0 hc1
      clear hb
      go_wp2_with fail
      exact ⟨rfl, Ext.refl _, HZ0.out.ext ((Ext.alloc _ _).trans he)⟩
    · obtain ⟨k0, k1⟩ := hk
      obtain rfl : u34 = .bool true := k1
      have H0 := Lib.hid k0
      clear k0
      go_wp2_with fail
      refine (zero_z (17592186043904) (z) _ _ (H0.out) (by omega)).mono ?_
      rintro e w2 ⟨he2, x, rfl, hx⟩
      obtain rfl : x = .bool false := hx.trans (by have := HC.out; simp; omega)
      go_wp2_with fail
      exact ⟨rfl, he2, rfl⟩
    · obtain ⟨k0, k1, k2⟩ := hk
      obtain rfl : u37 = .bool false := k0
      obtain rfl : u39 = .bool false := k1
      obtain rfl : u34 = .bool true := k2
      go_wp2_with fail
      exact ⟨rfl, Ext.refl _, by show (_ : Value) = _; (simp); try rfl⟩
    · obtain ⟨k0, k1⟩ := hk
      obtain rfl : u34 = .bool true := k0
      obtain rfl : u40 = .bool true := k1
      go_wp2_with fail
      exact ⟨rfl, Ext.refl _, by show (_ : Value) = _; (first | rfl | simp); try rfl⟩
  case last =>
    intro w1 he u0 h0 u1 h1 u2 h2 u3 h3 u4 h4 u5 h5 u6 h6 u7 h7 u8 h8 u9 h9 u10 h10 u11 h11 u12 h12 u13 h13 u14 h14 u15 h15 u16 h16 u17 h17 u18 h18 u19 h19 u20 h20 u21 h21 u22 h22 u23 h23 u24 h24 u25 h25 u26 h26 u27 h27 u28 h28 u29 h29 u30 h30 u31 h31 u32 h32 u33 h33 u34 h34 u35 h35 u36 h36 u37 h37 u38 h38 u39 h39 u40 h40 u41 h41
    obtain rfl : u41 = .bool true := h41
    clear h0 h1 h2 h3 h4 h5 h6 h7 h8 h9 h10 h11 h12 h13 h14 h15 h16 h17 h18 h19 h20 h21 h22 h23 h24 h25 h26 h27 h28 h29 h30 h31 h32 h33 h34 h35 h36 h37 h38 h39 h40
    simp only [LastD, Act.put, List.setIfInBounds_toArray, List.set_cons_succ, List.set_cons_zero]
    have HE := Lib.hid ((Ext.alloc _ _).trans he)
    clear he
    go_wp2_with fail
    go_ret
    exact ⟨HE.out, rfl⟩

set_option maxHeartbeats 1000000 in
theorem fnSigns_walk_z (n0 : Bool) (v0 : Value) (ws0 : List Nat) (w : World) (hr0 : Rd .u64 w v0 ws0) (hl0 : ws0.length ≤ 17592186043904) (hc : (ival n0 ws0) = 0) :
    Calls Try.prog 11 #[.agg #[.bool n0, v0]] w (ValR (.bool true) w) := by
  obtain ⟨a0, c0, rfl⟩ := hr0.form
  have hz0 : IsZ 17592186043904 (ival n0 ws0) (.agg #[.bool n0, .slice a0 ws0.length c0]) w := ⟨n0, _, ws0, rfl, hr0, hl0, rfl⟩
  generalize hg0 : ival n0 ws0 = z at hz0
  have HZ0 := Lib.hid hz0
  have HG0 := Lib.hid hg0
  clear hz0 hg0 hr0
  have HC : Hid (z = 0) := by simp only [HG0.out] at hc; exact hc
  clear hc
  go_enter Try.func11, Try.ntmps11
  go_wp2_with fail
  refine wp_region_D preExt mixed [IsZ (17592186043904) (z), Is (.int .i64 0), IsZ (17592186043904) (z), IsW (1) (0), Is (.int .i64 0), Is (.bool true), Is (.bool true), IsZ (17592186043904) (z), IsC (17592186043904) (-(z)), Is (.int .i64 0), IsZ (17592186043904) (z), Is (.int .i64 0), Is (.int .i64 0), Is (.bool true), Is (.bool true), Is (.bool true), IsZ (17592186043904) (z), IsC (17592186043904) (((z).natAbs : Int)), Is (.int .i64 0), IsZ (17592186043904) (z), Is (.int .i64 0), IsZ (17592186043904) (z), Is (.int .i64 0), Is (.int .i64 0), Is (.bool true), Is (.bool true), Is (.bool true), IsZ (17592186043904) (z), IsC (17592186043904) (((z).natAbs : Int)), IsC (17592186043904) (((((z).natAbs : Int)).natAbs : Int)), IsZ (17592186043904) (z), IsC (17592186043904) (((z).natAbs : Int)), Is (.bool true), Is (.bool true), Is (.bool true), IsZ (17592186043904) (z), Is (.int .i64 0), Is (.bool true), IsZ (17592186043904) (z), Is (.bool true), Is (.bool true), Is (.bool true)] (by kernel_rfl) ?mono rfl ?steps ?last
  case mono =>
    simp only [List.forall_mem_cons, List.not_mem_nil, false_implies, implies_true, and_true]
    refine ⟨?_, ?_, ?_, ?_, ?_, ?_, ?_, ?_, ?_, ?_, ?_, ?_, ?_, ?_, ?_, ?_, ?_, ?_, ?_, ?_, ?_, ?_, ?_, ?_, ?_, ?_, ?_, ?_, ?_, ?_, ?_, ?_, ?_, ?_, ?_, ?_, ?_, ?_, ?_, ?_, ?_, ?_⟩
    all_goals first | exact fun _ _ _ _ q => q | exact fun _ _ _ he q => q.ext he
  case steps =>
    refine ⟨?_, ?_, ?_, ?_, ?_, ?_, ?_, ?_, ?_, ?_, ?_, ?_, ?_, ?_, ?_, ?_, ?_, ?_, ?_, ?_, ?_, ?_, ?_, ?_, ?_, ?_, ?_, ?_, ?_, ?_, ?_, ?_, ?_, ?_, ?_, ?_, ?_, ?_, ?_, ?_, ?_, ?_, trivial⟩
    all_goals
      intro u0 u1 u2 u3 u4 u5 u6 u7 u8 u9 u10 u11 u12 u13 u14 u15 u16 u17 u18 u19 u20 u21 u22 u23 u24 u25 u26 u27 u28 u29 u30 u31 u32 u33 u34 u35 u36 u37 u38 u39 u40 u41 u42 w1 he hk
      simp [KnownD, Oper.looksAt, Op.operands, Call.operands, List.findIdx?_cons, Act.put] at hk
      simp only [Act.put, List.setIfInBounds_toArray, List.set_cons_succ, List.set_cons_zero]
    · have hb := he.block (heap_alloc_new _ _)
      have hc0 := blk_cell hb 0
      have hc1 := blk_cell hb 1
      simp at hc0 hc1
      clear hb
      go_wp2_with fail
      exact ⟨rfl, Ext.refl _, HZ0.out.ext ((Ext.alloc _ _).trans he)⟩
    · have k0 := hk
      have H0 := Lib.hid k0
      clear k0
      go_wp2_with fail
      refine (sign_z (17592186043904) (z) _ _ (H0.out) (by omega)).mono ?_
      rintro e w2 ⟨he2, x, rfl, hx⟩
      obtain rfl : x = .int .i64 0 := hx.trans (by rw [show sgnZ (z) = 0 by unfold sgnZ; have := HC.out; split <;> (try split) <;> omega])
      go_wp2_with fail
      exact ⟨rfl, he2, rfl⟩
    · have hb := he.block (heap_alloc_new _ _)
      have hc0 := blk_cell hb 0
      have hc1 := blk_cell hb 1
      simp at hc0 hc1
      clear hb
      go_wp2_with fail
      exact ⟨rfl, Ext.refl _, HZ0.out.ext ((Ext.alloc _ _).trans he)⟩
    · go_wp2_with fail
      refine (of_z (0) _ (by omega) (by omega)).mono ?_
      rintro e w2 ⟨he2, x, rfl, hx⟩
      have HX := Lib.hid hx
      clear hx
      go_wp2_with fail
      exact ⟨rfl, he2, HX.out⟩
    · obtain ⟨k0, k1⟩ := hk
      have H0 := Lib.hid k0
      have H1 := Lib.hid k1
      clear k0 k1
      go_wp2_with fail
      refine (compare_z (17592186043904) (1) (z) (0) _ _ _ (H0.out) (H1.out.z) (by omega) (by omega)).mono ?_
      rintro e w2 ⟨he2, x, rfl, hx⟩
      obtain rfl : x = .int .i64 0 := hx.trans (by rw [cmpZ_eq (by have := HC.out; omega)])
      go_wp2_with fail
      exact ⟨rfl, he2, rfl⟩
    · obtain ⟨k0, k1⟩ := hk
      obtain rfl : u1 = .int .i64 0 := k0
      obtain rfl : u4 = .int .i64 0 := k1
      go_wp2_with fail
      exact ⟨rfl, Ext.refl _, by show (_ : Value) = _; (simp); try rfl⟩
    · have k0 := hk
      obtain rfl : u5 = .bool true := k0
      go_wp2_with fail
      exact ⟨rfl, Ext.refl _, by show (_ : Value) = _; (first | rfl | simp); try rfl⟩
    · have k0 := hk
      obtain rfl : u6 = .bool true := k0
      have hb := he.block (heap_alloc_new _ _)
      have hc0 := blk_cell hb 0
      have hc1 := blk_cell hb 1
      simp at hc0 hc1
      clear hb
      go_wp2_with fail
      exact ⟨rfl, Ext.refl _, HZ0.out.ext ((Ext.alloc _ _).trans he)⟩
    · obtain ⟨k0, k1⟩ := hk
      obtain rfl : u6 = .bool true := k1
      have H0 := Lib.hid k0
      clear k0
      go_wp2_with fail
      refine (neg_z (17592186043904) (z) _ _ (H0.out) (by omega)).mono ?_
      rintro e w2 ⟨he2, x, rfl, hx⟩
      have HX := Lib.hid hx
      clear hx
      go_wp2_with fail
      exact ⟨rfl, he2, HX.out⟩
    · obtain ⟨k0, k1⟩ := hk
      obtain rfl : u6 = .bool true := k1
      have H0 := Lib.hid k0
      clear k0
      go_wp2_with fail
      refine (sign_z (17592186043904) (-(z)) _ _ (H0.out.z) (by omega)).mono ?_
      rintro e w2 ⟨he2, x, rfl, hx⟩
      obtain rfl : x = .int .i64 0 := hx.trans (by rw [show sgnZ (-(z)) = 0 by unfold sgnZ; have := HC.out; split <;> (try split) <;> omega])
      go_wp2_with fail
      exact ⟨rfl, he2, rfl⟩
    · have k0 := hk
      obtain rfl : u6 = .bool true := k0
      have hb := he.block (heap_alloc_new _ _)
      have hc0 := blk_cell hb 0
      have hc1 := blk_cell hb 1
      simp at hc0 hc1
      clear hb
      go_wp2_with fail
      exact ⟨rfl, Ext.refl _, HZ0.out.ext ((Ext.alloc _ _).trans he)⟩
    · obtain ⟨k0, k1⟩ := hk
      obtain rfl : u6 = .bool true := k1
      have H0 := Lib.hid k0
      clear k0
      go_wp2_with fail
      refine (sign_z (17592186043904) (z) _ _ (H0.out) (by omega)).mono ?_
      rintro e w2 ⟨he2, x, rfl, hx⟩
      obtain rfl : x = .int .i64 0 := hx.trans (by rw [show sgnZ (z) = 0 by unfold sgnZ; have := HC.out; split <;> (try split) <;> omega])
      go_wp2_with fail
      exact ⟨rfl, he2, rfl⟩
    · obtain ⟨k0, k1⟩ := hk
      obtain rfl : u11 = .int .i64 0 := k0
      obtain rfl : u6 = .bool true := k1
      go_wp2_with fail
      exact ⟨rfl, Ext.refl _, by show (_ : Value) = _; (simp); try rfl⟩
    · obtain ⟨k0, k1, k2⟩ := hk
      obtain rfl : u9 = .int .i64 0 := k0
      obtain rfl : u12 = .int .i64 0 := k1
      obtain rfl : u6 = .bool true := k2
      go_wp2_with fail
      exact ⟨rfl, Ext.refl _, by show (_ : Value) = _; (simp); try rfl⟩
    · obtain ⟨k0, k1⟩ := hk
      obtain rfl : u6 = .bool true := k0
      obtain rfl : u13 = .bool true := k1
      go_wp2_with fail
      exact ⟨rfl, Ext.refl _, by show (_ : Value) = _; (first | rfl | simp); try rfl⟩
    · have k0 := hk
      obtain rfl : u14 = .bool true := k0
      go_wp2_with fail
      exact ⟨rfl, Ext.refl _, by show (_ : Value) = _; (first | rfl | simp); try rfl⟩
    · have k0 := hk
      obtain rfl : u15 = .bool true := k0
      have hb := he.block (heap_alloc_new _ _)
      have hc0 := blk_cell hb 0
      have hc1 := blk_cell hb 1
      simp at hc0 hc1
      clear hb
      go_wp2_with fail
      exact ⟨rfl, Ext.refl _, HZ0.out.ext ((Ext.alloc _ _).trans he)⟩
    · obtain ⟨k0, k1⟩ := hk
      obtain rfl : u15 = .bool true := k1
      have H0 := Lib.hid k0
      clear k0
      go_wp2_with fail
      refine (abs_z (17592186043904) (z) _ _ (H0.out) (by omega)).mono ?_
      rintro e w2 ⟨he2, x, rfl, hx⟩
      have HX := Lib.hid hx
      clear hx
      go_wp2_with fail
      exact ⟨rfl, he2, HX.out⟩
    · obtain ⟨k0, k1⟩ := hk
      obtain rfl : u15 = .bool true := k1
      have H0 := Lib.hid k0
      clear k0
      go_wp2_with fail
      refine (sign_z (17592186043904) (((z).natAbs : Int)) _ _ (H0.out.z) (by omega)).mono ?_
      rintro e w2 ⟨he2, x, rfl, hx⟩
      obtain rfl : x = .int .i64 0 := hx.trans (by rw [show sgnZ (((z).natAbs : Int)) = 0 by unfold sgnZ; have := HC.out; split <;> (try split) <;> omega])
      go_wp2_with fail
      exact ⟨rfl, he2, rfl⟩
    · have k0 := hk
      obtain rfl : u15 = .bool true := k0
      have hb := he.block (heap_alloc_new _ _)
      have hc0 := blk_cell hb 0
      have hc1 := blk_cell hb 1
      simp at hc0 hc1
      clear hb
      go_wp2_with fail
      exact ⟨rfl, Ext.refl _, HZ0.out.ext ((Ext.alloc _ _).trans he)⟩
    · obtain ⟨k0, k1⟩ := hk
      obtain rfl : u15 = .bool true := k1
      have H0 := Lib.hid k0
      clear k0
      go_wp2_with fail
      refine (sign_z (17592186043904) (z) _ _ (H0.out) (by omega)).mono ?_
      rintro e w2 ⟨he2, x, rfl, hx⟩
      obtain rfl : x = .int .i64 0 := hx.trans (by rw [show sgnZ (z) = 0 by unfold sgnZ; have := HC.out; split <;> (try split) <;> omega])
      go_wp2_with fail
      exact ⟨rfl, he2, rfl⟩
    · have k0 := hk
      obtain rfl : u15 = .bool true := k0
      have hb := he.block (heap_alloc_new _ _)
      have hc0 := blk_cell hb 0
      have hc1 := blk_cell hb 1
      simp at hc0 hc1
      clear hb
      go_wp2_with fail
      exact ⟨rfl, Ext.refl _, HZ0.out.ext ((Ext.alloc _ _).trans he)⟩
    · obtain ⟨k0, k1⟩ := hk
      obtain rfl : u15 = .bool true := k1
      have H0 := Lib.hid k0
      clear k0
      go_wp2_with fail
      refine (sign_z (17592186043904) (z) _ _ (H0.out) (by omega)).mono ?_
      rintro e w2 ⟨he2, x, rfl, hx⟩
      obtain rfl : x = .int .i64 0 := hx.trans (by rw [show sgnZ (z) = 0 by unfold sgnZ; have := HC.out; split <;> (try split) <;> omega])
      go_wp2_with fail
      exact ⟨rfl, he2, rfl⟩
    · obtain ⟨k0, k1, k2⟩ := hk
      obtain rfl : u20 = .int .i64 0 := k0
      obtain rfl : u22 = .int .i64 0 := k1
      obtain rfl : u15 = .bool true := k2
      go_wp2_with fail
      exact ⟨rfl, Ext.refl _, by show (_ : Value) = _; (simp); try rfl⟩
    · obtain ⟨k0, k1, k2⟩ := hk
      obtain rfl : u18 = .int .i64 0 := k0
      obtain rfl : u23 = .int .i64 0 := k1
      obtain rfl : u15 = .bool true := k2
      go_wp2_with fail
      exact ⟨rfl, Ext.refl _, by show (_ : Value) = _; (simp); try rfl⟩
    · obtain ⟨k0, k1⟩ := hk
      obtain rfl : u15 = .bool true := k0
      obtain rfl : u24 = .bool true := k1
      go_wp2_with fail
      exact ⟨rfl, Ext.refl _, by show (_ : Value) = _; (first | rfl | simp); try rfl⟩
    · have k0 := hk
      obtain rfl : u25 = .bool true := k0
      go_wp2_with fail
      exact ⟨rfl, Ext.refl _, by show (_ : Value) = _; (first | rfl | simp); try rfl⟩
    · have k0 := hk
      obtain rfl : u26 = .bool true := k0
      have hb := he.block (heap_alloc_new _ _)
      have hc0 := blk_cell hb 0
      have hc1 := blk_cell hb 1
      simp at hc0 hc1
      clear hb
      go_wp2_with fail
      exact ⟨rfl, Ext.refl _, HZ0.out.ext ((Ext.alloc _ _).trans he)⟩
    · obtain ⟨k0, k1⟩ := hk
      obtain rfl : u26 = .bool true := k1
      have H0 := Lib.hid k0
      clear k0
      go_wp2_with fail
      refine (abs_z (17592186043904) (z) _ _ (H0.out) (by omega)).mono ?_
      rintro e w2 ⟨he2, x, rfl, hx⟩
      have HX := Lib.hid hx
      clear hx
      go_wp2_with fail
      exact ⟨rfl, he2, HX.out⟩
    · obtain ⟨k0, k1⟩ := hk
      obtain rfl : u26 = .bool true := k1
      have H0 := Lib.hid k0
      clear k0
      go_wp2_with fail
      refine (abs_z (17592186043904) (((z).natAbs : Int)) _ _ (H0.out.z) (by omega)).mono ?_
      rintro e w2 ⟨he2, x, rfl, hx⟩
      have HX := Lib.hid hx
      clear hx
      go_wp2_with fail
      exact ⟨rfl, he2, HX.out⟩
    · have k0 := hk
      obtain rfl : u26 = .bool true := k0
      have hb := he.block (heap_alloc_new _ _)
      have hc0 := blk_cell hb 0
      have hc1 := blk_cell hb 1
      simp at hc0 hc1
      clear hb
      go_wp2_with fail
      exact ⟨rfl, Ext.refl _, HZ0.out.ext ((Ext.alloc _ _).trans he)⟩
    · obtain ⟨k0, k1⟩ := hk
      obtain rfl : u26 = .bool true := k1
      have H0 := Lib.hid k0
      clear k0
      go_wp2_with fail
      refine (abs_z (17592186043904) (z) _ _ (H0.out) (by omega)).mono ?_
      rintro e w2 ⟨he2, x, rfl, hx⟩
      have HX := Lib.hid hx
      clear hx
      go_wp2_with fail
      exact ⟨rfl, he2, HX.out⟩
    · obtain ⟨k0, k1, k2⟩ := hk
      obtain rfl : u26 = .bool true := k2
      have H0 := Lib.hid k0
      have H1 := Lib.hid k1
      clear k0 k1
      go_wp2_with fail
      refine (same_z (17592186043904) (17592186043904) (((((z).natAbs : Int)).natAbs : Int)) (((z).natAbs : Int)) _ _ _ (H0.out.z) (H1.out.z) (by omega) (by omega)).mono ?_
      rintro e w2 ⟨he2, x, rfl, hx⟩
      obtain rfl : x = .bool true := hx.trans (by simp)
      go_wp2_with fail
      exact ⟨rfl, he2, rfl⟩
    · obtain ⟨k0, k1⟩ := hk
      obtain rfl : u26 = .bool true := k0
      obtain rfl : u32 = .bool true := k1
      go_wp2_with fail
      exact ⟨rfl, Ext.refl _, by show (_ : Value) = _; (first | rfl | simp); try rfl⟩
    · have k0 := hk
      obtain rfl : u33 = .bool true := k0
      go_wp2_with fail
      exact ⟨rfl, Ext.refl _, by show (_ : Value) = _; (first | rfl | simp); try rfl⟩
    · have k0 := hk
      obtain rfl : u34 = .bool true := k0
      have hb := he.block (heap_alloc_new _ _)
      have hc0 := blk_cell hb 0
      have hc1 := blk_cell hb 1
      simp at hc0 hc1
      clear hb
      go_wp2_with fail
      exact ⟨rfl, Ext.refl _, HZ0.out.ext ((Ext.alloc _ _).trans he)⟩
    · obtain ⟨k0, k1⟩ := hk
      obtain rfl : u34 = .bool true := k1
      have H0 := Lib.hid k0
      clear k0
      go_wp2_with fail
      refine (sign_z (17592186043904) (z) _ _ (H0.out) (by omega)).mono ?_
      rintro e w2 ⟨he2, x, rfl, hx⟩
      obtain rfl : x = .int .i64 0 := hx.trans (by rw [show sgnZ (z) = 0 by unfold sgnZ; have := HC.out; split <;> (try split) <;> omega])
      go_wp2_with fail
      exact ⟨rfl, he2, rfl⟩
    · obtain ⟨k0, k1⟩ := hk
      obtain rfl : u36 = .int .i64 0 := k0
      obtain rfl : u34 = .bool true := k1
      go_wp2_with fail
      exact ⟨rfl, Ext.refl _, by show (_ : Value) = _; (simp); try rfl⟩
    · have k0 := hk
      obtain rfl : u34 = .bool true := k0
      have hb := he.block (heap_alloc_new _ _)
      have hc0 := blk_cell hb 0
      have hc1 := blk_cell hb 1
      simp at hc0 hc1
      clear hb
      go_wp2_with fail
      exact ⟨rfl, Ext.refl _, HZ0.out.ext ((Ext.alloc _ _).trans he)⟩
    · obtain ⟨k0, k1⟩ := hk
      obtain rfl : u34 = .bool true := k1
      have H0 := Lib.hid k0
      clear k0
      go_wp2_with fail
      refine (zero_z (17592186043904) (z) _ _ (H0.out) (by omega)).mono ?_
      rintro e w2 ⟨he2, x, rfl, hx⟩
      obtain rfl : x = .bool true := hx.trans (by have := HC.out; simp; omega)
      go_wp2_with fail
      exact ⟨rfl, he2, rfl⟩
    · obtain ⟨k0, k1, k2⟩ := hk
      obtain rfl : u37 = .bool true := k0
      obtain rfl : u39 = .bool true := k1
      obtain rfl : u34 = .bool true := k2
      go_wp2_with fail
      exact ⟨rfl, Ext.refl _, by show (_ : Value) = _; (simp); try rfl⟩
    · obtain ⟨k0, k1⟩ := hk
      obtain rfl : u34 = .bool true := k0
      obtain rfl : u40 = .bool true := k1
      go_wp2_with fail
      exact ⟨rfl, Ext.refl _, by show (_ : Value) = _; (first | rfl | simp); try rfl⟩
  case last =>
    intro w1 he u0 h0 u1 h1 u2 h2 u3 h3 u4 h4 u5 h5 u6 h6 u7 h7 u8 h8 u9 h9 u10 h10 u11 h11 u12 h12 u13 h13 u14 h14 u15 h15 u16 h16 u17 h17 u18 h18 u19 h19 u20 h20 u21 h21 u22 h22 u23 h23 u24 h24 u25 h25 u26 h26 u27 h27 u28 h28 u29 h29 u30 h30 u31 h31 u32 h32 u33 h33 u34 h34 u35 h35 u36 h36 u37 h37 u38 h38 u39 h39 u40 h40 u41 h41
    obtain rfl : u41 = .bool true := h41
    clear h0 h1 h2 h3 h4 h5 h6 h7 h8 h9 h10 h11 h12 h13 h14 h15 h16 h17 h18 h19 h20 h21 h22 h23 h24 h25 h26 h27 h28 h29 h30 h31 h32 h33 h34 h35 h36 h37 h38 h39 h40
    simp only [LastD, Act.put, List.setIfInBounds_toArray, List.set_cons_succ, List.set_cons_zero]
    have HE := Lib.hid ((Ext.alloc _ _).trans he)
    clear he
    go_wp2_with fail
    go_ret
    exact ⟨HE.out, rfl⟩

set_option maxHeartbeats 1000000 in
theorem fnSigns_walk_p (n0 : Bool) (v0 : Value) (ws0 : List Nat) (w : World) (hr0 : Rd .u64 w v0 ws0) (hl0 : ws0.length ≤ 17592186043904) (hc : 0 < (ival n0 ws0)) :
    Calls Try.prog 11 #[.agg #[.bool n0, v0]] w (ValR (.bool true) w) := by
  obtain ⟨a0, c0, rfl⟩ := hr0.form
  have hz0 : IsZ 17592186043904 (ival n0 ws0) (.agg #[.bool n0, .slice a0 ws0.length c0]) w := ⟨n0, _, ws0, rfl, hr0, hl0, rfl⟩
  generalize hg0 : ival n0 ws0 = z at hz0
  have HZ0 := Lib.hid hz0
  have HG0 := Lib.hid hg0
  clear hz0 hg0 hr0
  have HC : Hid (0 < z) := by simp only [HG0.out] at hc; exact hc
  clear hc
  go_enter Try.func11, Try.ntmps11
  go_wp2_with fail
  refine wp_region_D preExt mixed [IsZ (17592186043904) (z), Is (.int .i64 1), IsZ (17592186043904) (z), IsW (1) (0), Is (.int .i64 1), Is (.bool true), Is (.bool true), IsZ (17592186043904) (z), IsC (17592186043904) (-(z)), Is (.int .i64 (-1)), IsZ (17592186043904) (z), Is (.int .i64 1), Is (.int .i64 (-1)), Is (.bool true), Is (.bool true), Is (.bool true), IsZ (17592186043904) (z), IsC (17592186043904) (((z).natAbs : Int)), Is (.int .i64 1), IsZ (17592186043904) (z), Is (.int .i64 1), IsZ (17592186043904) (z), Is (.int .i64 1), Is (.int .i64 1), Is (.bool true), Is (.bool true), Is (.bool true), IsZ (17592186043904) (z), IsC (17592186043904) (((z).natAbs : Int)), IsC (17592186043904) (((((z).natAbs : Int)).natAbs : Int)), IsZ (17592186043904) (z), IsC (17592186043904) (((z).natAbs : Int)), Is (.bool true), Is (.bool true), Is (.bool true), IsZ (17592186043904) (z), Is (.int .i64 1), Is (.bool false), IsZ (17592186043904) (z), Is (.bool false), Is (.bool true), Is (.bool true)] (by kernel_rfl) ?mono rfl ?steps ?last
  case mono =>
    simp only [List.forall_mem_cons, List.not_mem_nil, false_implies, implies_true, and_true]
    refine ⟨?_, ?_, ?_, ?_, ?_, ?_, ?_, ?_, ?_, ?_, ?_, ?_, ?_, ?_, ?_, ?_, ?_, ?_, ?_, ?_, ?_, ?_, ?_, ?_, ?_, ?_, ?_, ?_, ?_, ?_, ?_, ?_, ?_, ?_, ?_, ?_, ?_, ?_, ?_, ?_, ?_, ?_⟩
    all_goals first | exact fun _ _ _ _ q => q | exact fun _ _ _ he q => q.ext he
  case steps =>
    refine ⟨?_, ?_, ?_, ?_, ?_, ?_, ?_, ?_, ?_, ?_, ?_, ?_, ?_, ?_, ?_, ?_, ?_, ?_, ?_, ?_, ?_, ?_, ?_, ?_, ?_, ?_, ?_, ?_, ?_, ?_, ?_, ?_, ?_, ?_, ?_, ?_, ?_, ?_, ?_, ?_, ?_, ?_, trivial⟩
    all_goals
      intro u0 u1 u2 u3 u4 u5 u6 u7 u8 u9 u10 u11 u12 u13 u14 u15 u16 u17 u18 u19 u20 u21 u22 u23 u24 u25 u26 u27 u28 u29 u30 u31 u32 u33 u34 u35 u36 u37 u38 u39 u40 u41 u42 w1 he hk
      simp [KnownD, Oper.looksAt, Op.operands, Call.operands, List.findIdx?_cons, Act.put] at hk
      simp only [Act.put, List.setIfInBounds_toArray, List.set_cons_succ, List.set_cons_zero]
    · have hb := he.block (heap_alloc_new _ _)
      have hc0 := blk_cell hb 0
      have hc1 := blk_cell hb 1
      simp at hc0 hc1
      clear hb
      go_wp2_with fail
      exact ⟨rfl, Ext.refl _, HZ0.out.ext ((Ext.alloc _ _).trans he)⟩
    · have k0 := hk
      have H0 := Lib.hid k0
      clear k0
      go_wp2_with fail
      refine (sign_z (17592186043904) (z) _ _ (H0.out) (by omega)).mono ?_
      rintro e w2 ⟨he2, x, rfl, hx⟩
      obtain rfl : x = .int .i64 1 := hx.trans (by rw [show sgnZ (z) = 1 by unfold sgnZ; have := HC.out; split <;> (try split) <;> omega])
      go_wp2_with fail
      exact ⟨rfl, he2, rfl⟩
    · have hb := he.block (heap_alloc_new _ _)
      have hc0 := blk_cell hb 0
      have hc1 := blk_cell hb 1
      simp at hc0 hc1
      clear hb
      go_wp2_with fail
      exact ⟨rfl, Ext.refl _, HZ0.out.ext ((Ext.alloc _ _).trans he)⟩
    · go_wp2_with fail
      refine (of_z (0) _ (by omega) (by omega)).mono ?_
      rintro e w2 ⟨he2, x, rfl, hx⟩
      have HX := Lib.hid hx
      clear hx
      go_wp2_with fail
      exact ⟨rfl, he2, HX.out⟩
    · obtain ⟨k0, k1⟩ := hk
      have H0 := Lib.hid k0
      have H1 := Lib.hid k1
      clear k0 k1
      go_wp2_with fail
      refine (compare_z (17592186043904) (1) (z) (0) _ _ _ (H0.out) (H1.out.z) (by omega) (by omega)).mono ?_
      rintro e w2 ⟨he2, x, rfl, hx⟩
      obtain rfl : x = .int .i64 1 := hx.trans (by rw [cmpZ_gt (by have := HC.out; omega)])
      go_wp2_with fail
      exact ⟨rfl, he2, rfl⟩
    · obtain ⟨k0, k1⟩ := hk
      obtain rfl : u1 = .int .i64 1 := k0
      obtain rfl : u4 = .int .i64 1 := k1
      go_wp2_with fail
      exact ⟨rfl, Ext.refl _, by show (_ : Value) = _; (simp); try rfl⟩
    · have k0 := hk
      obtain rfl : u5 = .bool true := k0
      go_wp2_with fail
      exact ⟨rfl, Ext.refl _, by show (_ : Value) = _; (first | rfl | simp); try rfl⟩
    · have k0 := hk
      obtain rfl : u6 = .bool true := k0
      have hb := he.block (heap_alloc_new _ _)
      have hc0 := blk_cell hb 0
      have hc1 := blk_cell hb 1
      simp at hc0 hc1
      clear hb
      go_wp2_with fail
      exact ⟨rfl, Ext.refl _, HZ0.out.ext ((Ext.alloc _ _).trans he)⟩
    · obtain ⟨k0, k1⟩ := hk
      obtain rfl : u6 = .bool true := k1
      have H0 := Lib.hid k0
      clear k0
      go_wp2_with fail
      refine (neg_z (17592186043904) (z) _ _ (H0.out) (by omega)).mono ?_
      rintro e w2 ⟨he2, x, rfl, hx⟩
      have HX := Lib.hid hx
      clear hx
      go_wp2_with fail
      exact ⟨rfl, he2, HX.out⟩
    · obtain ⟨k0, k1⟩ := hk
      obtain rfl : u6 = .bool true := k1
      have H0 := Lib.hid k0
      clear k0
      go_wp2_with fail
      refine (sign_z (17592186043904) (-(z)) _ _ (H0.out.z) (by omega)).mono ?_
      rintro e w2 ⟨he2, x, rfl, hx⟩
      obtain rfl : x = .int .i64 (-1) := hx.trans (by rw [show sgnZ (-(z)) = -1 by unfold sgnZ; have := HC.out; split <;> (try split) <;> omega])
      go_wp2_with fail
      exact ⟨rfl, he2, rfl⟩
    · have k0 := hk
      obtain rfl : u6 = .bool true := k0
      have hb := he.block (heap_alloc_new _ _)
      have hc0 := blk_cell hb 0
      have hc1 := blk_cell hb 1
      simp at hc0 hc1
      clear hb
      go_wp2_with fail
      exact ⟨rfl, Ext.refl _, HZ0.out.ext ((Ext.alloc _ _).trans he)⟩
    · obtain ⟨k0, k1⟩ := hk
      obtain rfl : u6 = .bool true := k1
      have H0 := Lib.hid k0
      clear k0
      go_wp2_with fail
      refine (sign_z (17592186043904) (z) _ _ (H0.out) (by omega)).mono ?_
      rintro e w2 ⟨he2, x, rfl, hx⟩
      obtain rfl : x = .int .i64 1 := hx.trans (by rw [show sgnZ (z) = 1 by unfold sgnZ; have := HC.out; split <;> (try split) <;> omega])
      go_wp2_with fail
      exact ⟨rfl, he2, rfl⟩
    · obtain ⟨k0, k1⟩ := hk
      obtain rfl : u11 = .int .i64 1 := k0
      obtain rfl : u6 = .bool true := k1
      go_wp2_with fail
      exact ⟨rfl, Ext.refl _, by show (_ : Value) = _; (simp); try rfl⟩
    · obtain ⟨k0, k1, k2⟩ := hk
      obtain rfl : u9 = .int .i64 (-1) := k0
      obtain rfl : u12 = .int .i64 (-1) := k1
      obtain rfl : u6 = .bool true := k2
      go_wp2_with fail
      exact ⟨rfl, Ext.refl _, by show (_ : Value) = _; (simp); try rfl⟩
    · obtain ⟨k0, k1⟩ := hk
      obtain rfl : u6 = .bool true := k0
      obtain rfl : u13 = .bool true := k1
      go_wp2_with fail
      exact ⟨rfl, Ext.refl _, by show (_ : Value) = _; (first | rfl | simp); try rfl⟩
    · have k0 := hk
      obtain rfl : u14 = .bool true := k0
      go_wp2_with fail
      exact ⟨rfl, Ext.refl _, by show (_ : Value) = _; (first | rfl | simp); try rfl⟩
    · have k0 := hk
      obtain rfl : u15 = .bool true := k0
      have hb := he.block (heap_alloc_new _ _)
      have hc0 := blk_cell hb 0
      have hc1 := blk_cell hb 1
      simp at hc0 hc1
      clear hb
      go_wp2_with fail
      exact ⟨rfl, Ext.refl _, HZ0.out.ext ((Ext.alloc _ _).trans he)⟩
    · obtain ⟨k0, k1⟩ := hk
      obtain rfl : u15 = .bool true := k1
      have H0 := Lib.hid k0
      clear k0
      go_wp2_with fail
      refine (abs_z (17592186043904) (z) _ _ (H0.out) (by omega)).mono ?_
      rintro e w2 ⟨he2, x, rfl, hx⟩
      have HX := Lib.hid hx
      clear hx
      go_wp2_with fail
      exact ⟨rfl, he2, HX.out⟩
    · obtain ⟨k0, k1⟩ := hk
      obtain rfl : u15 = .bool true := k1
      have H0 := Lib.hid k0
      clear k0
      go_wp2_with fail
      refine (sign_z (17592186043904) (((z).natAbs : Int)) _ _ (H0.out.z) (by omega)).mono ?_
      rintro e w2 ⟨he2, x, rfl, hx⟩
      obtain rfl : x = .int .i64 1 := hx.trans (by rw [show sgnZ (((z).natAbs : Int)) = 1 by unfold sgnZ; have := HC.out; split <;> (try split) <;> omega])
      go_wp2_with fail
      exact ⟨rfl, he2, rfl⟩
    · have k0 := hk
      obtain rfl : u15 = .bool true := k0
      have hb := he.block (heap_alloc_new _ _)
      have hc0 := blk_cell hb 0
      have hc1 := blk_cell hb 1
      simp at hc0 hc1
      clear hb
      go_wp2_with fail
      exact ⟨rfl, Ext.refl _, HZ0.out.ext ((Ext.alloc _ _).trans he)⟩
    · obtain ⟨k0, k1⟩ := hk
      obtain rfl : u15 = .bool true := k1
      have H0 := Lib.hid k0
      clear k0
      go_wp2_with fail
      refine (sign_z (17592186043904) (z) _ _ (H0.out) (by omega)).mono ?_
      rintro e w2 ⟨he2, x, rfl, hx⟩
      obtain rfl : x = .int .i64 1 := hx.trans (by rw [show sgnZ (z) = 1 by unfold sgnZ; have := HC.out; split <;> (try split) <;> omega])
      go_wp2_with fail
      exact ⟨rfl, he2, rfl⟩
    · have k0 := hk
      obtain rfl : u15 = .bool true := k0
      have hb := he.block (heap_alloc_new _ _)
      have hc0 := blk_cell hb 0
      have hc1 := blk_cell hb 1
      simp at hc0 hc1
      clear hb
      go_wp2_with fail
      exact ⟨rfl, Ext.refl _, HZ0.out.ext ((Ext.alloc _ _).trans he)⟩
    · obtain ⟨k0, k1⟩ := hk
      obtain rfl : u15 = .bool true := k1
      have H0 := Lib.hid k0
      clear k0
      go_wp2_with fail
      refine (sign_z (17592186043904) (z) _ _ (H0.out) (by omega)).mono ?_
      rintro e w2 ⟨he2, x, rfl, hx⟩
      obtain rfl : x = .int .i64 1 := hx.trans (by rw [show sgnZ (z) = 1 by unfold sgnZ; have := HC.out; split <;> (try split) <;> omega])
      go_wp2_with fail
      exact ⟨rfl, he2, rfl⟩
    · obtain ⟨k0, k1, k2⟩ := hk
      obtain rfl : u20 = .int .i64 1 := k0
      obtain rfl : u22 = .int .i64 1 := k1
      obtain rfl : u15 = .bool true := k2
      go_wp2_with fail
      exact ⟨rfl, Ext.refl _, by show (_ : Value) = _; (simp); try rfl⟩
    · obtain ⟨k0, k1, k2⟩ := hk
      obtain rfl : u18 = .int .i64 1 := k0
      obtain rfl : u23 = .int .i64 1 := k1
      obtain rfl : u15 = .bool true := k2
      go_wp2_with fail
      exact ⟨rfl, Ext.refl _, by show (_ : Value) = _; (simp); try rfl⟩
    · obtain ⟨k0, k1⟩ := hk
      obtain rfl : u15 = .bool true := k0
      obtain rfl : u24 = .bool true := k1
      go_wp2_with fail
      exact ⟨rfl, Ext.refl _, by show (_ : Value) = _; (first | rfl | simp); try rfl⟩
    · have k0 := hk
      obtain rfl : u25 = .bool true := k0
      go_wp2_with fail
      exact ⟨rfl, Ext.refl _, by show (_ : Value) = _; (first | rfl | simp); try rfl⟩
    · have k0 := hk
      obtain rfl : u26 = .bool true := k0
      have hb := he.block (heap_alloc_new _ _)
      have hc0 := blk_cell hb 0
      have hc1 := blk_cell hb 1
      simp at hc0 hc1
      clear hb
      go_wp2_with fail
      exact ⟨rfl, Ext.refl _, HZ0.out.ext ((Ext.alloc _ _).trans he)⟩
    · obtain ⟨k0, k1⟩ := hk
      obtain rfl : u26 = .bool true := k1
      have H0 := Lib.hid k0
      clear k0
      go_wp2_with fail
      refine (abs_z (17592186043904) (z) _ _ (H0.out) (by omega)).mono ?_
      rintro e w2 ⟨he2, x, rfl, hx⟩
      have HX := Lib.hid hx
      clear hx
      go_wp2_with fail
      exact ⟨rfl, he2, HX.out⟩
    · obtain ⟨k0, k1⟩ := hk
      obtain rfl : u26 = .bool true := k1
      have H0 := Lib.hid k0
      clear k0
      go_wp2_with fail
      refine (abs_z (17592186043904) (((z).natAbs : Int)) _ _ (H0.out.z) (by omega)).mono ?_
      rintro e w2 ⟨he2, x, rfl, hx⟩
      have HX := Lib.hid hx
      clear hx
      go_wp2_with fail
      exact ⟨rfl, he2, HX.out⟩
    · have k0 := hk
      obtain rfl : u26 = .bool true := k0
      have hb := he.block (heap_alloc_new _ _)
      have hc0 := blk_cell hb 0
      have hc1 := blk_cell hb 1
      simp at hc0 hc1
      clear hb
      go_wp2_with fail
      exact ⟨rfl, Ext.refl _, HZ0.out.ext ((Ext.alloc _ _).trans he)⟩
    · obtain ⟨k0, k1⟩ := hk
      obtain rfl : u26 = .bool true := k1
      have H0 := Lib.hid k0
      clear k0
      go_wp2_with fail
      refine (abs_z (17592186043904) (z) _ _ (H0.out) (by omega)).mono ?_
      rintro e w2 ⟨he2, x, rfl, hx⟩
      have HX := Lib.hid hx
      clear hx
      go_wp2_with fail
      exact ⟨rfl, he2, HX.out⟩
    · obtain ⟨k0, k1, k2⟩ := hk
      obtain rfl : u26 = .bool true := k2
      have H0 := Lib.hid k0
      have H1 := Lib.hid k1
      clear k0 k1
      go_wp2_with fail
      refine (same_z (17592186043904) (17592186043904) (((((z).natAbs : Int)).natAbs : Int)) (((z).natAbs : Int)) _ _ _ (H0.out.z) (H1.out.z) (by omega) (by omega)).mono ?_
      rintro e w2 ⟨he2, x, rfl, hx⟩
      obtain rfl : x = .bool true := hx.trans (by simp)
      go_wp2_with fail
      exact ⟨rfl, he2, rfl⟩
    · obtain ⟨k0, k1⟩ := hk
      obtain rfl : u26 = .bool true := k0
      obtain rfl : u32 = .bool true := k1
      go_wp2_with fail
      exact ⟨rfl, Ext.refl _, by show (_ : Value) = _; (first | rfl | simp); try rfl⟩
    · have k0 := hk
      obtain rfl : u33 = .bool true := k0
      go_wp2_with fail
      exact ⟨rfl, Ext.refl _, by show (_ : Value) = _; (first | rfl | simp); try rfl⟩
    · have k0 := hk
      obtain rfl : u34 = .bool true := k0
      have hb := he.block (heap_alloc_new _ _)
      have hc0 := blk_cell hb 0
      have hc1 := blk_cell hb 1
      simp at hc0 hc1
      clear hb
      go_wp2_with fail
      exact ⟨rfl, Ext.refl _, HZ0.out.ext ((Ext.alloc _ _).trans he)⟩
    · obtain ⟨k0, k1⟩ := hk
      obtain rfl : u34 = .bool true := k1
      have H0 := Lib.hid k0
      clear k0
      go_wp2_with fail
      refine (sign_z (17592186043904) (z) _ _ (H0.out) (by omega)).mono ?_
      rintro e w2 ⟨he2, x, rfl, hx⟩
      obtain rfl : x = .int .i64 1 := hx.trans (by rw [show sgnZ (z) = 1 by unfold sgnZ; have := HC.out; split <;> (try split) <;> omega])
      go_wp2_with fail
      exact ⟨rfl, he2, rfl⟩
    · obtain ⟨k0, k1⟩ := hk
      obtain rfl : u36 = .int .i64 1 := k0
      obtain rfl : u34 = .bool true := k1
      go_wp2_with fail
      exact ⟨rfl, Ext.refl _, by show (_ : Value) = _; (simp); try rfl⟩
    · have k0 := hk
      obtain rfl : u34 = .bool true := k0
      have hb := he.block (heap_alloc_new _ _)
      have hc0 := blk_cell hb 0
      have hc1 := blk_cell hb 1
      simp at hc0 hc1
      clear hb
      go_wp2_with fail
      exact ⟨rfl, Ext.refl _, HZ0.out.ext ((Ext.alloc _ _).trans he)⟩
    · obtain ⟨k0, k1⟩ := hk
      obtain rfl : u34 = .bool true := k1
      have H0 := Lib.hid k0
      clear k0
      go_wp2_with fail
      refine (zero_z (17592186043904) (z) _ _ (H0.out) (by omega)).mono ?_
      rintro e w2 ⟨he2, x, rfl, hx⟩
      obtain rfl : x = .bool false := hx.trans (by have := HC.out; simp; omega)
      go_wp2_with fail
      exact ⟨rfl, he2, rfl⟩
    · obtain ⟨k0, k1, k2⟩ := hk
      obtain rfl : u37 = .bool false := k0
      obtain rfl : u39 = .bool false := k1
      obtain rfl : u34 = .bool true := k2
      go_wp2_with fail
      exact ⟨rfl, Ext.refl _, by show (_ : Value) = _; (simp); try rfl⟩
    · obtain ⟨k0, k1⟩ := hk
      obtain rfl : u34 = .bool true := k0
      obtain rfl : u40 = .bool true := k1
      go_wp2_with fail
      exact ⟨rfl, Ext.refl _, by show (_ : Value) = _; (first | rfl | simp); try rfl⟩
  case last =>
    intro w1 he u0 h0 u1 h1 u2 h2 u3 h3 u4 h4 u5 h5 u6 h6 u7 h7 u8 h8 u9 h9 u10 h10 u11 h11 u12 h12 u13 h13 u14 h14 u15 h15 u16 h16 u17 h17 u18 h18 u19 h19 u20 h20 u21 h21 u22 h22 u23 h23 u24 h24 u25 h25 u26 h26 u27 h27 u28 h28 u29 h29 u30 h30 u31 h31 u32 h32 u33 h33 u34 h34 u35 h35 u36 h36 u37 h37 u38 h38 u39 h39 u40 h40 u41 h41
    obtain rfl : u41 = .bool true := h41
    clear h0 h1 h2 h3 h4 h5 h6 h7 h8 h9 h10 h11 h12 h13 h14 h15 h16 h17 h18 h19 h20 h21 h22 h23 h24 h25 h26 h27 h28 h29 h30 h31 h32 h33 h34 h35 h36 h37 h38 h39 h40
    simp only [LastD, Act.put, List.setIfInBounds_toArray, List.set_cons_succ, List.set_cons_zero]
    have HE := Lib.hid ((Ext.alloc _ _).trans he)
    clear he
    go_wp2_with fail
    go_ret
    exact ⟨HE.out, rfl⟩

theorem fnSigns_walk (n0 : Bool) (v0 : Value) (ws0 : List Nat) (w : World) (hr0 : Rd .u64 w v0 ws0) (hl0 : ws0.length ≤ 17592186043904) :
    Calls Try.prog 11 #[.agg #[.bool n0, v0]] w (ValR (.bool true) w) := by
  rcases Int.lt_trichotomy (ival n0 ws0) 0 with h | h | h
  · exact fnSigns_walk_n n0 v0 ws0 w hr0 hl0 h
  · exact fnSigns_walk_z n0 v0 ws0 w hr0 hl0 h
  · exact fnSigns_walk_p n0 v0 ws0 w hr0 hl0 h

end Go.Proofs.Ytgeddjobgokfaaa

