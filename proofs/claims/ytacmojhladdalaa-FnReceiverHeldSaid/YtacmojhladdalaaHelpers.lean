/- The helpers of the laws by values (printed by lawgen.py). -/
import Derived.Test.YtacmojhladdalaaImplNA
import Derived.Test.YtacmojhladdalaaBits
set_option linter.unusedSimpArgs false
set_option linter.unusedVariables false
namespace Go.Proofs.Ytacmojhladdalaa
open Go.RowKit

set_option maxHeartbeats 1000000 in
theorem neg_z (L : Nat) (z : Int) (x0 : Value) (w : World) (hz0 : IsZ (L) (z) x0 w) (hL : L ≤ 17592186044416) :
    Calls Try.prog 25 #[x0] w (ResR (IsC L (-z)) w) := by
  obtain ⟨n0, a0, l0, c0, rfl⟩ := hz0.form
  have HZ0 := Lib.hid hz0
  clear hz0
  go_enter Try.func25, Try.ntmps25
  go_wp2_with fail
  refine (toImpl_z (L) (z) _ _ ((HZ0.out.ext ((Ext.alloc _ _).trans (Ext.alloc _ _)))) (by omega)).mono ?_
  rintro e w1 ⟨he, y1, rfl, hy⟩
  have HB := Lib.hid he
  have HE := Lib.hid (((Ext.alloc _ _).trans (Ext.alloc _ _)).trans he)
  clear he
  have HY1 := Lib.hid hy
  clear hy
  have hcc := fun a v h => Ext.cell HB.out (a := a) (v := v) h
  go_wp2_with fail
  refine (implNeg_z (0) (0) (L) (0) (z) _ _ _ ((IsZ.zeroN _)) (HY1.out.z) (by omega) (by omega)).mono ?_
  clear hcc
  rintro e w2 ⟨he, y2, rfl, hy⟩
  replace HY1 := Lib.hid (HY1.out.ext he)
  replace HB := Lib.hid (HB.out.trans he)
  replace HE := Lib.hid (HE.out.trans he)
  clear he
  obtain ⟨m1, s1, m2, s2, m3, s3, rfl, t1, t2, t3⟩ := hy
  have HT1 := Lib.hid t1
  have HT2 := Lib.hid t2
  have HT3 := Lib.hid t3
  clear t1 t2 t3
  have hfz := field_z m1 s1 m2 s2 m3 s3
  have hcc := fun a v h => Ext.cell HB.out (a := a) (v := v) h
  go_wp2_with fail
  refine (fromImpl_z (L) (-(z)) _ _ HT1.out).mono ?_
  clear hcc
  rintro e w3 ⟨he, y3, rfl, hy⟩
  replace HY1 := Lib.hid (HY1.out.ext he)
  replace HT1 := Lib.hid (HT1.out.ext he)
  replace HT2 := Lib.hid (HT2.out.ext he)
  replace HT3 := Lib.hid (HT3.out.ext he)
  replace HB := Lib.hid (HB.out.trans he)
  replace HE := Lib.hid (HE.out.trans he)
  clear he
  have HY3 := Lib.hid hy
  clear hy
  obtain ⟨m, aa, ll, cc, rfl⟩ := HY3.out.form
  have hp : w3.heap[w.heap.size + 1]? = some (.cells #[.bool false, .slice none 0 0] 24 (0, 0)) := HB.out.block (heap_second _ _ _)
  have d0 := blk_cell hp 0
  have d1 := blk_cell hp 1
  have f0 := blk_free hp 0
  have f1 := blk_free hp 1
  simp at d0 d1
  have HP := Lib.hid hp
  clear hp
  try clear hfz
  go_wp2_with fail
  obtain ⟨e0, e1, hu⟩ := set2 HP.out (.bool m) (.slice aa ll cc)
  exact bodyPost_ret (results_laws rfl _ rfl e0 e1) rfl ⟨hu.ext HE.out (by omega), _, rfl, HY3.out.upd HP.out (by decide) hu⟩

set_option maxHeartbeats 1000000 in
theorem abs_z (L : Nat) (z : Int) (x0 : Value) (w : World) (hz0 : IsZ (L) (z) x0 w) (hL : L ≤ 17592186044416) :
    Calls Try.prog 32 #[x0] w (ResR (IsC L (z.natAbs : Int)) w) := by
  obtain ⟨n0, a0, l0, c0, rfl⟩ := hz0.form
  have HZ0 := Lib.hid hz0
  clear hz0
  go_enter Try.func32, Try.ntmps32
  go_wp2_with fail
  refine (toImpl_z (L) (z) _ _ ((HZ0.out.ext ((Ext.alloc _ _).trans (Ext.alloc _ _)))) (by omega)).mono ?_
  rintro e w1 ⟨he, y1, rfl, hy⟩
  have HB := Lib.hid he
  have HE := Lib.hid (((Ext.alloc _ _).trans (Ext.alloc _ _)).trans he)
  clear he
  have HY1 := Lib.hid hy
  clear hy
  have hcc := fun a v h => Ext.cell HB.out (a := a) (v := v) h
  go_wp2_with fail
  refine (implAbs_z (0) (0) (L) (0) (z) _ _ _ ((IsZ.zeroN _)) (HY1.out.z) (by omega) (by omega)).mono ?_
  clear hcc
  rintro e w2 ⟨he, y2, rfl, hy⟩
  replace HY1 := Lib.hid (HY1.out.ext he)
  replace HB := Lib.hid (HB.out.trans he)
  replace HE := Lib.hid (HE.out.trans he)
  clear he
  obtain ⟨m1, s1, m2, s2, m3, s3, rfl, t1, t2, t3⟩ := hy
  have HT1 := Lib.hid t1
  have HT2 := Lib.hid t2
  have HT3 := Lib.hid t3
  clear t1 t2 t3
  have hfz := field_z m1 s1 m2 s2 m3 s3
  have hcc := fun a v h => Ext.cell HB.out (a := a) (v := v) h
  go_wp2_with fail
  refine (fromImpl_z (L) (((z).natAbs : Int)) _ _ HT1.out).mono ?_
  clear hcc
  rintro e w3 ⟨he, y3, rfl, hy⟩
  replace HY1 := Lib.hid (HY1.out.ext he)
  replace HT1 := Lib.hid (HT1.out.ext he)
  replace HT2 := Lib.hid (HT2.out.ext he)
  replace HT3 := Lib.hid (HT3.out.ext he)
  replace HB := Lib.hid (HB.out.trans he)
  replace HE := Lib.hid (HE.out.trans he)
  clear he
  have HY3 := Lib.hid hy
  clear hy
  obtain ⟨m, aa, ll, cc, rfl⟩ := HY3.out.form
  have hp : w3.heap[w.heap.size + 1]? = some (.cells #[.bool false, .slice none 0 0] 24 (0, 0)) := HB.out.block (heap_second _ _ _)
  have d0 := blk_cell hp 0
  have d1 := blk_cell hp 1
  have f0 := blk_free hp 0
  have f1 := blk_free hp 1
  simp at d0 d1
  have HP := Lib.hid hp
  clear hp
  try clear hfz
  go_wp2_with fail
  obtain ⟨e0, e1, hu⟩ := set2 HP.out (.bool m) (.slice aa ll cc)
  exact bodyPost_ret (results_laws rfl _ rfl e0 e1) rfl ⟨hu.ext HE.out (by omega), _, rfl, HY3.out.upd HP.out (by decide) hu⟩

set_option maxHeartbeats 1000000 in
theorem sign_z (L : Nat) (z : Int) (x0 : Value) (w : World) (hz0 : IsZ (L) (z) x0 w) (hL : L ≤ 17592186044416) :
    Calls Try.prog 30 #[x0] w (ResR (Is (.int .i64 (sgnZ z))) w) := by
  obtain ⟨n0, a0, l0, c0, rfl⟩ := hz0.form
  have HZ0 := Lib.hid hz0
  clear hz0
  go_enter Try.func30, Try.ntmps30
  go_wp2_with fail
  refine (toImpl_z (L) (z) _ _ ((HZ0.out.ext (Ext.alloc _ _))) (by omega)).mono ?_
  rintro e w1 ⟨he, y1, rfl, hy⟩
  have HB := Lib.hid he
  have HE := Lib.hid ((Ext.alloc _ _).trans he)
  clear he
  have HY1 := Lib.hid hy
  clear hy
  have hcc := fun a v h => Ext.cell HB.out (a := a) (v := v) h
  go_wp2_with fail
  refine (implSign_z (L) (z) _ _ (HY1.out.z) (by omega)).mono ?_
  clear hcc
  rintro e w2 ⟨he, y2, rfl, hy⟩
  replace HY1 := Lib.hid (HY1.out.ext he)
  replace HB := Lib.hid (HB.out.trans he)
  replace HE := Lib.hid (HE.out.trans he)
  clear he
  obtain rfl : y2 = .int .i64 (sgnZ (z)) := hy
  go_wp2_with fail
  go_ret
  exact ⟨HE.out, _, rfl, rfl⟩

set_option maxHeartbeats 1000000 in
theorem zero_z (L : Nat) (z : Int) (x0 : Value) (w : World) (hz0 : IsZ (L) (z) x0 w) (hL : L ≤ 17592186044416) :
    Calls Try.prog 35 #[x0] w (ResR (Is (.bool (decide (z = 0)))) w) := by
  obtain ⟨n0, a0, l0, c0, rfl⟩ := hz0.form
  have HZ0 := Lib.hid hz0
  clear hz0
  go_enter Try.func35, Try.ntmps35
  go_wp2_with fail
  refine (toSpec_z (L) (z) _ _ ((HZ0.out.ext (Ext.alloc _ _))) (by omega)).mono ?_
  rintro e w1 ⟨he, y1, rfl, hy⟩
  have HB := Lib.hid he
  have HE := Lib.hid ((Ext.alloc _ _).trans he)
  clear he
  have HY1 := Lib.hid hy
  clear hy
  have hcc := fun a v h => Ext.cell HB.out (a := a) (v := v) h
  go_wp2_with fail
  refine (isZero_z (L) (z) _ _ (HY1.out.z) (by omega)).mono ?_
  clear hcc
  rintro e w2 ⟨he, y2, rfl, hy⟩
  replace HY1 := Lib.hid (HY1.out.ext he)
  replace HB := Lib.hid (HB.out.trans he)
  replace HE := Lib.hid (HE.out.trans he)
  clear he
  obtain rfl : y2 = .bool (decide (z = 0)) := hy
  go_wp2_with fail
  go_ret
  exact ⟨HE.out, _, rfl, rfl⟩

end Go.Proofs.Ytacmojhladdalaa

