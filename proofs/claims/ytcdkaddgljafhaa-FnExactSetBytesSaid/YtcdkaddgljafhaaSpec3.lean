/- Functions that hand a Number on through a result cell: contracts (printed by gen2.py). -/
import Derived.Test.YtcdkaddgljafhaaSpec2
set_option linter.unusedSimpArgs false
set_option linter.unusedVariables false
namespace Go.Proofs.Ytcdkaddgljafhaa
open Go.RowKit

theorem heap_second (w : World) (o o' : Obj) : ((w.alloc o).alloc o').heap[w.heap.size + 1]? = some o' := by
  have := heap_alloc_new (w.alloc o) o'
  rwa [World.size_alloc] at this

theorem specTrim_any (n : Bool) (v : Value) (ws : List Nat) (w : World) (h : Rd .u64 w v ws) (hl : ws.length ≤ 17592186044416) :
    Calls Try.prog 68 #[.agg #[.bool n, v]] w (NumR (decide (0 < (norm ws).length) && n) (norm ws) w) := by
  obtain ⟨a, cap, rfl⟩ := h.form
  have H := Lib.hid h
  clear h
  go_enter Try.func68, Try.ntmps68
  go_wp2_with fail
  refine (specInteger_any (n) _ ws _ (H.out.ext ((Ext.alloc _ _).trans (Ext.alloc _ _))) hl).mono ?_
  rintro e w1 ⟨he, v', rfl, ho⟩
  obtain ⟨a', cap', rfl⟩ := ho.form
  have hp : w1.heap[w.heap.size + 1]? = some (.cells #[.bool false, .slice none 0 0] 29 (0, 0)) := he.block (heap_second _ _ _)
  have c0 := blk_cell hp 0
  have c1 := blk_cell hp 1
  have f0 := blk_free hp 0
  have f1 := blk_free hp 1
  simp at c0 c1
  have HP := Lib.hid hp
  have HE := Lib.hid (((Ext.alloc _ _).trans (Ext.alloc _ _)).trans he)
  clear hp he
  generalize hn : (decide (0 < (norm ws).length) && n) = nn at *
  have HN := Lib.hid hn
  clear hn
  generalize hm : norm ws = m at *
  have HM := Lib.hid hm
  clear hm
  go_wp2_with fail
  obtain ⟨d0, d1, hu⟩ := set2 HP.out (.bool nn) (.slice a' m.length cap')
  exact bodyPost_ret (results_spec rfl _ rfl d0 d1) rfl ⟨hu.ext HE.out (by omega), _, rfl, ho.upd HP.out (by decide) hu⟩

theorem specAbs_any (n : Bool) (v : Value) (ws : List Nat) (w : World) (h : Rd .u64 w v ws) (hl : ws.length ≤ 17592186044416) :
    Calls Try.prog 33 #[.agg #[.bool n, v]] w (NumR (decide (0 < (norm ws).length) && false) (norm ws) w) := by
  obtain ⟨a, cap, rfl⟩ := h.form
  have H := Lib.hid h
  clear h
  go_enter Try.func33, Try.ntmps33
  go_wp2_with fail
  refine (specInteger_any (false) _ ws _ (H.out.ext ((Ext.alloc _ _).trans (Ext.alloc _ _))) hl).mono ?_
  rintro e w1 ⟨he, v', rfl, ho⟩
  obtain ⟨a', cap', rfl⟩ := ho.form
  have hp : w1.heap[w.heap.size + 1]? = some (.cells #[.bool false, .slice none 0 0] 29 (0, 0)) := he.block (heap_second _ _ _)
  have c0 := blk_cell hp 0
  have c1 := blk_cell hp 1
  have f0 := blk_free hp 0
  have f1 := blk_free hp 1
  simp at c0 c1
  have HP := Lib.hid hp
  have HE := Lib.hid (((Ext.alloc _ _).trans (Ext.alloc _ _)).trans he)
  clear hp he
  generalize hn : (decide (0 < (norm ws).length) && false) = nn at *
  have HN := Lib.hid hn
  clear hn
  generalize hm : norm ws = m at *
  have HM := Lib.hid hm
  clear hm
  go_wp2_with fail
  obtain ⟨d0, d1, hu⟩ := set2 HP.out (.bool nn) (.slice a' m.length cap')
  exact bodyPost_ret (results_spec rfl _ rfl d0 d1) rfl ⟨hu.ext HE.out (by omega), _, rfl, ho.upd HP.out (by decide) hu⟩

theorem specSetBits_any (v : Value) (ws : List Nat) (w : World) (h : Rd .u64 w v ws) (hl : ws.length ≤ 17592186044416) :
    Calls Try.prog 35 #[v] w (NumR false (norm ws) w) := by
  obtain ⟨a, cap, rfl⟩ := h.form
  have H := Lib.hid h
  clear h
  go_enter Try.func35, Try.ntmps35
  go_wp2_with fail
  refine (specInteger_any false _ ws _ (H.out.ext (Ext.alloc _ _)) hl).mono ?_
  rw [Bool.and_false]
  rintro e w1 ⟨he, v', rfl, ho⟩
  obtain ⟨a', cap', rfl⟩ := ho.form
  have hp : w1.heap[w.heap.size]? = some (.cells #[.bool false, .slice none 0 0] 29 (0, 0)) := he.block (heap_alloc_new _ _)
  have c0 := blk_cell hp 0
  have c1 := blk_cell hp 1
  have f0 := blk_free hp 0
  have f1 := blk_free hp 1
  simp at c0 c1
  have HP := Lib.hid hp
  have HE := Lib.hid ((Ext.alloc _ _).trans he)
  clear hp he
  generalize hm : norm ws = m at *
  have HM := Lib.hid hm
  clear hm
  go_wp2_with fail
  obtain ⟨d0, d1, hu⟩ := set2 HP.out (.bool false) (.slice a' m.length cap')
  exact bodyPost_ret (results_spec rfl _ rfl d0 d1) rfl ⟨hu.ext HE.out (by omega), _, rfl, ho.upd HP.out (by decide) hu⟩

theorem fromUint_any (x : Nat) (w : World) (hx : x < 18446744073709551616) :
    Calls Try.prog 23 #[.int .u64 x] w (NumR false (norm [x]) w) := by
  go_enter Try.func23, Try.ntmps23
  go_wp2_with fail
  have hr : Rd .u64 ((w.alloc (.cells #[.bool false, .slice none 0 0] 29)).alloc (.cells #[.int .u64 (x : Nat)] 38)) (.slice (some ⟨w.heap.size + 1, 0, none⟩) 1 1) [x] := by
    refine ⟨by simpa [lim] using hx, _, 1, rfl, by simp, by simp, by simp, fun i hi => ⟨_, _, rfl, ?_⟩⟩
    simp at hi
    subst hi
    rw [blk_cell (heap_second _ _ _)]
    rfl
  refine (specInteger_any false _ [x] _ hr (by simp)).mono ?_
  rw [Bool.and_false]
  rintro e w1 ⟨he, v', rfl, ho⟩
  obtain ⟨a', cap', rfl⟩ := ho.form
  have hp : w1.heap[w.heap.size]? = some (.cells #[.bool false, .slice none 0 0] 29 (0, 0)) := he.block ((Ext.alloc _ _).block (heap_alloc_new _ _))
  have c0 := blk_cell hp 0
  have c1 := blk_cell hp 1
  have f0 := blk_free hp 0
  have f1 := blk_free hp 1
  simp at c0 c1
  have HP := Lib.hid hp
  have HE := Lib.hid (((Ext.alloc _ _).trans (Ext.alloc _ _)).trans he)
  clear hp he
  generalize hm : norm [x] = m at *
  have HM := Lib.hid hm
  clear hm
  go_wp2_with fail
  obtain ⟨d0, d1, hu⟩ := set2 HP.out (.bool false) (.slice a' m.length cap')
  exact bodyPost_ret (results_spec rfl _ rfl d0 d1) rfl ⟨hu.ext HE.out (by omega), _, rfl, ho.upd HP.out (by decide) hu⟩

theorem fromImpl_any (n : Bool) (v : Value) (ws : List Nat) (w : World) (ho : Own .u64 w 0 38 v ws) :
    Calls Try.prog 20 #[.agg #[.bool n, v]] w (NumR n ws w) := by
  obtain ⟨a', cap', rfl⟩ := ho.form
  go_enter Try.func20, Try.ntmps20
  go_wp2_with fail
  have hp : ((w.alloc (.cells #[.bool n, .slice a' ws.length cap'] 26)).alloc (.cells #[.bool n, .slice a' ws.length cap'] 24)).heap[w.heap.size + 1]? = some (.cells #[.bool n, .slice a' ws.length cap'] 24 (0, 0)) := heap_second _ _ _
  have hE : Ext w ((w.alloc (.cells #[.bool n, .slice a' ws.length cap'] 26)).alloc (.cells #[.bool n, .slice a' ws.length cap'] 24)) := (Ext.alloc _ _).trans (Ext.alloc _ _)
  exact bodyPost_ret (results_laws rfl _ rfl (blk_cell hp 0) (blk_cell hp 1)) rfl ⟨hE, _, rfl, ho.ext hE⟩

theorem fromSpec_any (n : Bool) (v : Value) (ws : List Nat) (w : World) (ho : Own .u64 w 0 38 v ws) :
    Calls Try.prog 22 #[.agg #[.bool n, v]] w (NumR n ws w) := by
  obtain ⟨a', cap', rfl⟩ := ho.form
  go_enter Try.func22, Try.ntmps22
  go_wp2_with fail
  have hp : ((w.alloc (.cells #[.bool n, .slice a' ws.length cap'] 29)).alloc (.cells #[.bool n, .slice a' ws.length cap'] 24)).heap[w.heap.size + 1]? = some (.cells #[.bool n, .slice a' ws.length cap'] 24 (0, 0)) := heap_second _ _ _
  have hE : Ext w ((w.alloc (.cells #[.bool n, .slice a' ws.length cap'] 29)).alloc (.cells #[.bool n, .slice a' ws.length cap'] 24)) := (Ext.alloc _ _).trans (Ext.alloc _ _)
  exact bodyPost_ret (results_laws rfl _ rfl (blk_cell hp 0) (blk_cell hp 1)) rfl ⟨hE, _, rfl, ho.ext hE⟩

end Go.Proofs.Ytcdkaddgljafhaa
