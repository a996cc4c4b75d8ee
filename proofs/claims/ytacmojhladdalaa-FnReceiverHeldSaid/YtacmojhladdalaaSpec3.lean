/- Functions that hand a Number on through a result cell: contracts (printed by gen2.py). -/
import Derived.Test.YtacmojhladdalaaSpec2
set_option linter.unusedSimpArgs false
set_option linter.unusedVariables false
namespace Go.Proofs.Ytacmojhladdalaa
open Go.RowKit

theorem heap_second (w : World) (o o' : Obj) : ((w.alloc o).alloc o').heap[w.heap.size + 1]? = some o' := by
  have := heap_alloc_new (w.alloc o) o'
  rwa [World.size_alloc] at this

theorem specTrim_any (n : Bool) (v : Value) (ws : List Nat) (w : World) (h : Rd .u64 w v ws) (hl : ws.length ≤ 17592186044416) :
    Calls Try.prog 36 #[.agg #[.bool n, v]] w (NumR (decide (0 < (norm ws).length) && n) (norm ws) w) := by
  obtain ⟨a, cap, rfl⟩ := h.form
  have H := Lib.hid h
  clear h
  go_enter Try.func36, Try.ntmps36
  go_wp2_with fail
  refine (specInteger_any (n) _ ws _ (H.out.ext ((Ext.alloc _ _).trans (Ext.alloc _ _))) hl).mono ?_
  rintro e w1 ⟨he, v', rfl, ho⟩
  obtain ⟨a', cap', rfl⟩ := ho.form
  have hp : w1.heap[w.heap.size + 1]? = some (.cells #[.bool false, .slice none 0 0] 25 (0, 0)) := he.block (heap_second _ _ _)
  have c0 := blk_cell hp 0
  have c1 := blk_cell hp 1
  have f0 := blk_free hp 0
  have f1 := blk_free hp 1
  simp at c0 c1
  have HP := Lib.hid hp
  have HE := Lib.hid (((Ext.alloc _ _).trans (Ext.alloc _ _)).trans he)
  clear hp he
  generalize hn : (decide (0 < (norm ws).length) && n) = nn at *
  have HN := Lib.hid hn
  clear hn
  generalize hm : norm ws = m at *
  have HM := Lib.hid hm
  clear hm
  go_wp2_with fail
  obtain ⟨d0, d1, hu⟩ := set2 HP.out (.bool nn) (.slice a' m.length cap')
  exact bodyPost_ret (results_spec rfl _ rfl d0 d1) rfl ⟨hu.ext HE.out (by omega), _, rfl, ho.upd HP.out (by decide) hu⟩

theorem specAbs_any (n : Bool) (v : Value) (ws : List Nat) (w : World) (h : Rd .u64 w v ws) (hl : ws.length ≤ 17592186044416) :
    Calls Try.prog 33 #[.agg #[.bool n, v]] w (NumR (decide (0 < (norm ws).length) && false) (norm ws) w) := by
  obtain ⟨a, cap, rfl⟩ := h.form
  have H := Lib.hid h
  clear h
  go_enter Try.func33, Try.ntmps33
  go_wp2_with fail
  refine (specInteger_any (false) _ ws _ (H.out.ext ((Ext.alloc _ _).trans (Ext.alloc _ _))) hl).mono ?_
  rintro e w1 ⟨he, v', rfl, ho⟩
  obtain ⟨a', cap', rfl⟩ := ho.form
  have hp : w1.heap[w.heap.size + 1]? = some (.cells #[.bool false, .slice none 0 0] 25 (0, 0)) := he.block (heap_second _ _ _)
  have c0 := blk_cell hp 0
  have c1 := blk_cell hp 1
  have f0 := blk_free hp 0
  have f1 := blk_free hp 1
  simp at c0 c1
  have HP := Lib.hid hp
  have HE := Lib.hid (((Ext.alloc _ _).trans (Ext.alloc _ _)).trans he)
  clear hp he
  generalize hn : (decide (0 < (norm ws).length) && false) = nn at *
  have HN := Lib.hid hn
  clear hn
  generalize hm : norm ws = m at *
  have HM := Lib.hid hm
  clear hm
  go_wp2_with fail
  obtain ⟨d0, d1, hu⟩ := set2 HP.out (.bool nn) (.slice a' m.length cap')
  exact bodyPost_ret (results_spec rfl _ rfl d0 d1) rfl ⟨hu.ext HE.out (by omega), _, rfl, ho.upd HP.out (by decide) hu⟩

theorem specNeg_any (n : Bool) (v : Value) (ws : List Nat) (w : World) (h : Rd .u64 w v ws) (hl : ws.length ≤ 17592186044416) :
    Calls Try.prog 44 #[.agg #[.bool n, v]] w (NumR (decide (0 < (norm ws).length) && !n) (norm ws) w) := by
  obtain ⟨a, cap, rfl⟩ := h.form
  have H := Lib.hid h
  clear h
  go_enter Try.func44, Try.ntmps44
  go_wp2_with fail
  refine (specInteger_any (!n) _ ws _ (H.out.ext ((Ext.alloc _ _).trans (Ext.alloc _ _))) hl).mono ?_
  rintro e w1 ⟨he, v', rfl, ho⟩
  obtain ⟨a', cap', rfl⟩ := ho.form
  have hp : w1.heap[w.heap.size + 1]? = some (.cells #[.bool false, .slice none 0 0] 25 (0, 0)) := he.block (heap_second _ _ _)
  have c0 := blk_cell hp 0
  have c1 := blk_cell hp 1
  have f0 := blk_free hp 0
  have f1 := blk_free hp 1
  simp at c0 c1
  have HP := Lib.hid hp
  have HE := Lib.hid (((Ext.alloc _ _).trans (Ext.alloc _ _)).trans he)
  clear hp he
  generalize hn : (decide (0 < (norm ws).length) && !n) = nn at *
  have HN := Lib.hid hn
  clear hn
  generalize hm : norm ws = m at *
  have HM := Lib.hid hm
  clear hm
  go_wp2_with fail
  obtain ⟨d0, d1, hu⟩ := set2 HP.out (.bool nn) (.slice a' m.length cap')
  exact bodyPost_ret (results_spec rfl _ rfl d0 d1) rfl ⟨hu.ext HE.out (by omega), _, rfl, ho.upd HP.out (by decide) hu⟩

theorem fromImpl_any (n : Bool) (v : Value) (ws : List Nat) (w : World) (ho : Own .u64 w 0 63 v ws) :
    Calls Try.prog 31 #[.agg #[.bool n, v]] w (NumR n ws w) := by
  obtain ⟨a', cap', rfl⟩ := ho.form
  go_enter Try.func31, Try.ntmps31
  go_wp2_with fail
  have hp : ((w.alloc (.cells #[.bool n, .slice a' ws.length cap'] 30)).alloc (.cells #[.bool n, .slice a' ws.length cap'] 24)).heap[w.heap.size + 1]? = some (.cells #[.bool n, .slice a' ws.length cap'] 24 (0, 0)) := heap_second _ _ _
  have hE : Ext w ((w.alloc (.cells #[.bool n, .slice a' ws.length cap'] 30)).alloc (.cells #[.bool n, .slice a' ws.length cap'] 24)) := (Ext.alloc _ _).trans (Ext.alloc _ _)
  exact bodyPost_ret (results_laws rfl _ rfl (blk_cell hp 0) (blk_cell hp 1)) rfl ⟨hE, _, rfl, ho.ext hE⟩

theorem fromSpec_any (n : Bool) (v : Value) (ws : List Nat) (w : World) (ho : Own .u64 w 0 63 v ws) :
    Calls Try.prog 21 #[.agg #[.bool n, v]] w (NumR n ws w) := by
  obtain ⟨a', cap', rfl⟩ := ho.form
  go_enter Try.func21, Try.ntmps21
  go_wp2_with fail
  have hp : ((w.alloc (.cells #[.bool n, .slice a' ws.length cap'] 25)).alloc (.cells #[.bool n, .slice a' ws.length cap'] 24)).heap[w.heap.size + 1]? = some (.cells #[.bool n, .slice a' ws.length cap'] 24 (0, 0)) := heap_second _ _ _
  have hE : Ext w ((w.alloc (.cells #[.bool n, .slice a' ws.length cap'] 25)).alloc (.cells #[.bool n, .slice a' ws.length cap'] 24)) := (Ext.alloc _ _).trans (Ext.alloc _ _)
  exact bodyPost_ret (results_laws rfl _ rfl (blk_cell hp 0) (blk_cell hp 1)) rfl ⟨hE, _, rfl, ho.ext hE⟩

end Go.Proofs.Ytacmojhladdalaa
