/- spec.FromInt, laws.of (printed by lawgen.py). -/
import Derived.Test.YtdfknmplpjmemaaCmp3
import Derived.Test.YtdfknmplpjmemaaSpec5
set_option linter.unusedSimpArgs false
set_option linter.unusedVariables false
namespace Go.Proofs.Ytdfknmplpjmemaa
open Go.RowKit

set_option maxHeartbeats 1000000 in
theorem fromInt_neg (x : Nat) (w : World) (hx : x ≤ 9223372036854775808) (hn : 0 < x) :
    Calls Try.prog 33 #[.int .i64 (-(x : Int))] w (ResR (IsC 1 (-(x : Int))) w) := by
  have hb : decide (0 < x) = true := by simp; omega
  have hb2 : 0 < x := hn
  have HX := Lib.hid hx
  clear hx hn
  go_enter Try.func33, Try.ntmps33
  go_wp2_with fail
  rw [show IntKind.u64.wrap (wrap64 (x : Int)) = ((x : Nat) : Int) by have := HX.out; simp [IntKind.wrap, wrap64, IntKind.bits, IntKind.signed]; omega]
  have hr : Rd .u64 ((w.alloc (.cells #[.bool false, .slice none 0 0] 42)).alloc (.cells #[.int .u64 (x : Nat)] 25)) (.slice (some ⟨w.heap.size + 1, 0, none⟩) 1 1) [x] := by
    have hx := HX.out
    refine ⟨by simp [lim]; omega, _, 1, rfl, by simp, by simp, by simp, fun i hi => ⟨_, _, rfl, ?_⟩⟩
    simp at hi
    subst hi
    rw [blk_cell (heap_second _ _ _)]
    rfl
  refine (specInteger_c true [x] (-(x : Int)) _ _ hr (by simp [ival, val]) (by simp)).mono ?_
  rintro e w1 ⟨he, y1, rfl, hy⟩
  obtain ⟨m, aa, ll, cc, rfl⟩ := hy.form
  have hp : w1.heap[w.heap.size]? = some (.cells #[.bool false, .slice none 0 0] 42 (0, 0)) := he.block ((Ext.alloc _ _).block (heap_alloc_new _ _))
  have c0 := blk_cell hp 0
  have c1 := blk_cell hp 1
  have f0 := blk_free hp 0
  have f1 := blk_free hp 1
  simp at c0 c1
  have HP := Lib.hid hp
  have HY := Lib.hid hy
  have HE := Lib.hid (((Ext.alloc _ _).trans (Ext.alloc _ _)).trans he)
  clear hp he hr hy
  go_wp2_with fail
  obtain ⟨d0, d1, hu⟩ := set2 HP.out (.bool m) (.slice aa ll cc)
  exact bodyPost_ret (results_spec rfl _ rfl d0 d1) rfl ⟨hu.ext HE.out (by omega), _, rfl, HY.out.upd HP.out (by decide) hu⟩

set_option maxHeartbeats 1000000 in
theorem fromInt_pos (x : Nat) (w : World) (hx : x < 9223372036854775808)  :
    Calls Try.prog 33 #[.int .i64 ((x : Int))] w (ResR (IsC 1 ((x : Int))) w) := by
  have hb : decide ((x : Int) < 0) = false := by simp; try omega
  have hb2 : ¬ ((x : Int) < 0) := by omega
  have HX := Lib.hid hx
  clear hx 
  go_enter Try.func33, Try.ntmps33
  go_wp2_with fail
  rw [show IntKind.u64.wrap (x : Int) = ((x : Nat) : Int) by have := HX.out; simp [IntKind.wrap, wrap64, IntKind.bits, IntKind.signed]; omega]
  have hr : Rd .u64 ((w.alloc (.cells #[.bool false, .slice none 0 0] 42)).alloc (.cells #[.int .u64 (x : Nat)] 25)) (.slice (some ⟨w.heap.size + 1, 0, none⟩) 1 1) [x] := by
    have hx := HX.out
    refine ⟨by simp [lim]; omega, _, 1, rfl, by simp, by simp, by simp, fun i hi => ⟨_, _, rfl, ?_⟩⟩
    simp at hi
    subst hi
    rw [blk_cell (heap_second _ _ _)]
    rfl
  refine (specInteger_c false [x] ((x : Int)) _ _ hr (by simp [ival, val]) (by simp)).mono ?_
  rintro e w1 ⟨he, y1, rfl, hy⟩
  obtain ⟨m, aa, ll, cc, rfl⟩ := hy.form
  have hp : w1.heap[w.heap.size]? = some (.cells #[.bool false, .slice none 0 0] 42 (0, 0)) := he.block ((Ext.alloc _ _).block (heap_alloc_new _ _))
  have c0 := blk_cell hp 0
  have c1 := blk_cell hp 1
  have f0 := blk_free hp 0
  have f1 := blk_free hp 1
  simp at c0 c1
  have HP := Lib.hid hp
  have HY := Lib.hid hy
  have HE := Lib.hid (((Ext.alloc _ _).trans (Ext.alloc _ _)).trans he)
  clear hp he hr hy
  go_wp2_with fail
  obtain ⟨d0, d1, hu⟩ := set2 HP.out (.bool m) (.slice aa ll cc)
  exact bodyPost_ret (results_spec rfl _ rfl d0 d1) rfl ⟨hu.ext HE.out (by omega), _, rfl, HY.out.upd HP.out (by decide) hu⟩

theorem fromInt_z (n : Int) (w : World) (h1 : -9223372036854775808 ≤ n) (h2 : n < 9223372036854775808) :
    Calls Try.prog 33 #[.int .i64 n] w (ResR (IsC 1 n) w) := by
  by_cases h : n < 0
  · obtain ⟨x, rfl⟩ : ∃ x : Nat, n = -(x : Int) := ⟨n.natAbs, by omega⟩
    exact fromInt_neg x w (by omega) (by omega)
  · obtain ⟨x, rfl⟩ : ∃ x : Nat, n = (x : Int) := ⟨n.natAbs, by omega⟩
    exact fromInt_pos x w (by omega)

set_option maxHeartbeats 1000000 in
theorem of_z (n : Int)  (w : World)  (h1 : -9223372036854775808 ≤ n) (h2 : n < 9223372036854775808) :
    Calls Try.prog 11 #[.int .i64 n] w (ResR (IsW 1 n) w) := by
  have H1 := Lib.hid h1
  have H2 := Lib.hid h2
  clear h1 h2
  go_enter Try.func11, Try.ntmps11
  go_wp2_with fail
  refine (fromInt_z n _ H1.out H2.out).mono ?_
  rintro e w1 ⟨he, y1, rfl, hy⟩
  have HB := Lib.hid he
  have HE := Lib.hid ((Ext.alloc _ _).trans he)
  clear he
  have HY1 := Lib.hid hy
  clear hy
  have hcc := fun a v h => Ext.cell HB.out (a := a) (v := v) h
  go_wp2_with fail
  refine (fromSpec_z (1) (n) _ _ (HY1.out.w)).mono ?_
  clear hcc
  rintro e w2 ⟨he, y2, rfl, hy⟩
  replace HY1 := Lib.hid (HY1.out.ext he)
  replace HB := Lib.hid (HB.out.trans he)
  replace HE := Lib.hid (HE.out.trans he)
  clear he
  have HY2 := Lib.hid hy
  clear hy
  obtain ⟨m, aa, ll, cc, rfl⟩ := HY2.out.form
  have hp : w2.heap[w.heap.size]? = some (.cells #[.bool false, .slice none 0 0] 24 (0, 0)) := HB.out.block (heap_alloc_new _ _)
  have d0 := blk_cell hp 0
  have d1 := blk_cell hp 1
  have f0 := blk_free hp 0
  have f1 := blk_free hp 1
  simp at d0 d1
  have HP := Lib.hid hp
  clear hp
  go_wp2_with fail
  obtain ⟨e0, e1, hu⟩ := set2 HP.out (.bool m) (.slice aa ll cc)
  exact bodyPost_ret (results_laws rfl _ rfl e0 e1) rfl ⟨hu.ext HE.out (by omega), _, rfl, HY2.out.upd HP.out (by decide) hu⟩

end Go.Proofs.Ytdfknmplpjmemaa

