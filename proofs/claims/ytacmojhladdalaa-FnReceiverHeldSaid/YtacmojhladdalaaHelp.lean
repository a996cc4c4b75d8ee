/- toImpl, toSpec: contracts (this text is printed by gen.py). -/
import Derived.Test.YtacmojhladdalaaSpec
set_option linter.unusedSimpArgs false
set_option linter.unusedVariables false
namespace Go.Proofs.Ytacmojhladdalaa
open Go.RowKit

set_option maxHeartbeats 1000000 in
theorem toImpl_any (n : Bool) (v : Value) (ws : List Nat) (w : World) (h : Rd .u64 w v ws) (hl : ws.length ≤ 17592186044416) :
    Calls Try.prog 20 #[.agg #[.bool n, v]] w (NumR n ws w) := by
  obtain ⟨a, cap, rfl⟩ := h.form
  have H := Lib.hid h
  clear h
  go_enter Try.func20, Try.ntmps20
  go_wp2_with fail
  refine wp_region_D preExt mixed [fun x _ => x = .pointer (some ⟨w.heap.size, 0, none⟩), fun x _ => x = .bool n, fun x w1 => ∃ g, x = .slice (some ⟨g, 0, none⟩) 0 0 ∧ w.heap.size ≤ g ∧ w1.heap[g]? = some (.cells #[] 63 (0, 0)),
    fun x _ => x = .pointer (some ⟨w.heap.size, 1, none⟩), fun x _ => x = .slice a ws.length cap, fun x w1 => Own .u64 w1 w.heap.size 63 x ws, fun x w1 => ∃ s, x = .agg #[.bool n, s] ∧ Own .u64 w1 w.heap.size 63 s ws] (by kernel_rfl) ?mono rfl ?steps ?last
  case mono =>
    simp only [List.forall_mem_cons, List.not_mem_nil, false_implies, implies_true, and_true]
    exact ⟨fun _ _ _ _ q => q, fun _ _ _ _ q => q, fun _ _ _ he ⟨g, q1, q2, q3⟩ => ⟨g, q1, q2, he.block q3⟩, fun _ _ _ _ q => q, fun _ _ _ _ q => q, fun _ _ _ he q => q.ext he, fun _ _ _ he ⟨s, q1, q2⟩ => ⟨s, q1, q2.ext he⟩⟩
  case steps =>
    refine ⟨?_, ?_, ?_, ?_, ?_, ?_, ?_, trivial⟩
    all_goals
      intro u0 u1 u2 u3 u4 u5 u6 u7 w1 he hk
      simp [KnownD, Oper.looksAt, Op.operands, Call.operands, List.findIdx?_cons, Act.put] at hk
      simp only [Act.put, List.setIfInBounds_toArray, List.set_cons_succ, List.set_cons_zero]
    · go_wp2_with fail
      exact ⟨rfl, Ext.refl _, rfl⟩
    · have hc := fun a v h => Ext.cell he (a := a) (v := v) h
      go_wp2_with fail
      exact ⟨rfl, Ext.refl _, rfl⟩
    · have hs := he.size
      simp only [World.size_alloc] at hs
      go_wp2_with fail
      exact ⟨rfl, Ext.alloc _ _, _, rfl, by omega, heap_alloc_new _ _⟩
    · go_wp2_with fail
      exact ⟨rfl, Ext.refl _, rfl⟩
    · have hc := fun a v h => Ext.cell he (a := a) (v := v) h
      go_wp2_with fail
      exact ⟨rfl, Ext.refl _, rfl⟩
    · obtain ⟨⟨g, rfl, hg1, hg2⟩, rfl⟩ := hk
      refine wpList_copy_words (k := .u64) (bytes := 8) rfl (.tmp 5) (.tmp 7) 22 rfl 63 Try.underlying22 infoUint w.heap.size g rfl hg2 hg1 _ rfl ws (H.out.ext (((Ext.alloc _ _).trans (Ext.alloc _ _)).trans he)) (by omega) (by omega) ?_
      intro v' w' ho he'
      refine wpList_nil ?_
      simp only [Act.put, List.setIfInBounds_toArray, List.set_cons_succ, List.set_cons_zero]
      exact ⟨rfl, he', ho⟩
    · obtain ⟨rfl, hk⟩ := hk
      obtain ⟨a', cap', rfl⟩ := hk.form
      go_wp2_with fail
      exact ⟨rfl, Ext.refl _, _, rfl, hk⟩
  case last =>
    intro w1 he u0 h0 u1 h1 u2 h2 u3 h3 u4 h4 u5 h5 u6 h6
    obtain ⟨s, rfl, ho⟩ := h6
    obtain ⟨a', cap', rfl⟩ := ho.form
    have hp : w1.heap[w.heap.size + 1]? = some (.cells #[.bool false, .slice none 0 0] 30 (0, 0)) := he.block (by rw [show w.heap.size + 1 = (w.alloc (.cells #[.bool n, .slice a ws.length cap] 24)).heap.size by simp]; exact heap_alloc_new _ _)
    have hE : Ext w w1 := ((Ext.alloc _ _).trans (Ext.alloc _ _)).trans he
    have c0 := blk_cell hp 0
    have c1 := blk_cell hp 1
    have f0 := blk_free hp 0
    have f1 := blk_free hp 1
    simp at c0 c1
    have HP := Lib.hid hp
    have HE := Lib.hid hE
    clear hp hE he h0 h1 h2 h3 h4 h5
    simp only [LastD, Act.put, List.setIfInBounds_toArray, List.set_cons_succ, List.set_cons_zero]
    go_wp2_with fail
    have hu : Upd (· = w.heap.size + 1) w1 ((w1.setCell ⟨w.heap.size + 1, 0, none⟩ (.bool n)).setCell ⟨w.heap.size + 1, 1, none⟩ (.slice a' ws.length cap')) := ((Upd.refl (· = w.heap.size + 1) _).setCell (by rfl) _).setCell (by rfl) _
    have hb2 := blk2_set1 (blk2_set0 HP.out (.bool n)) (.slice a' ws.length cap')
    refine bodyPost_ret (v := .agg #[.bool n, .slice a' ws.length cap']) ?_ rfl ⟨hu.ext HE.out (by omega), _, rfl, (ho.upd HP.out (by decide) hu).mono (Nat.zero_le _)⟩
    have d0 := blk_cell hb2 0
    have d1 := blk_cell hb2 1
    simp only [List.getElem?_toArray, List.getElem?_cons_zero, List.getElem?_cons_succ] at d0 d1
    generalize ((w1.setCell ⟨w.heap.size + 1, 0, none⟩ (.bool n)).setCell ⟨w.heap.size + 1, 1, none⟩ (.slice a' ws.length cap')) = w2 at d0 d1 ⊢
    simp [results, Try.results20, go_sem, d0, d1]

set_option maxHeartbeats 1000000 in
theorem toSpec_any (n : Bool) (v : Value) (ws : List Nat) (w : World) (h : Rd .u64 w v ws) (hl : ws.length ≤ 17592186044416) :
    Calls Try.prog 16 #[.agg #[.bool n, v]] w (NumR n ws w) := by
  obtain ⟨a, cap, rfl⟩ := h.form
  have H := Lib.hid h
  clear h
  go_enter Try.func16, Try.ntmps16
  go_wp2_with fail
  refine wp_region_D preExt mixed [fun x _ => x = .pointer (some ⟨w.heap.size, 0, none⟩), fun x _ => x = .bool n, fun x w1 => ∃ g, x = .slice (some ⟨g, 0, none⟩) 0 0 ∧ w.heap.size ≤ g ∧ w1.heap[g]? = some (.cells #[] 63 (0, 0)),
    fun x _ => x = .pointer (some ⟨w.heap.size, 1, none⟩), fun x _ => x = .slice a ws.length cap, fun x w1 => Own .u64 w1 w.heap.size 63 x ws, fun x w1 => ∃ s, x = .agg #[.bool n, s] ∧ Own .u64 w1 w.heap.size 63 s ws] (by kernel_rfl) ?mono rfl ?steps ?last
  case mono =>
    simp only [List.forall_mem_cons, List.not_mem_nil, false_implies, implies_true, and_true]
    exact ⟨fun _ _ _ _ q => q, fun _ _ _ _ q => q, fun _ _ _ he ⟨g, q1, q2, q3⟩ => ⟨g, q1, q2, he.block q3⟩, fun _ _ _ _ q => q, fun _ _ _ _ q => q, fun _ _ _ he q => q.ext he, fun _ _ _ he ⟨s, q1, q2⟩ => ⟨s, q1, q2.ext he⟩⟩
  case steps =>
    refine ⟨?_, ?_, ?_, ?_, ?_, ?_, ?_, trivial⟩
    all_goals
      intro u0 u1 u2 u3 u4 u5 u6 u7 w1 he hk
      simp [KnownD, Oper.looksAt, Op.operands, Call.operands, List.findIdx?_cons, Act.put] at hk
      simp only [Act.put, List.setIfInBounds_toArray, List.set_cons_succ, List.set_cons_zero]
    · go_wp2_with fail
      exact ⟨rfl, Ext.refl _, rfl⟩
    · have hc := fun a v h => Ext.cell he (a := a) (v := v) h
      go_wp2_with fail
      exact ⟨rfl, Ext.refl _, rfl⟩
    · have hs := he.size
      simp only [World.size_alloc] at hs
      go_wp2_with fail
      exact ⟨rfl, Ext.alloc _ _, _, rfl, by omega, heap_alloc_new _ _⟩
    · go_wp2_with fail
      exact ⟨rfl, Ext.refl _, rfl⟩
    · have hc := fun a v h => Ext.cell he (a := a) (v := v) h
      go_wp2_with fail
      exact ⟨rfl, Ext.refl _, rfl⟩
    · obtain ⟨⟨g, rfl, hg1, hg2⟩, rfl⟩ := hk
      refine wpList_copy_words (k := .u64) (bytes := 8) rfl (.tmp 5) (.tmp 7) 22 rfl 63 Try.underlying22 infoUint w.heap.size g rfl hg2 hg1 _ rfl ws (H.out.ext (((Ext.alloc _ _).trans (Ext.alloc _ _)).trans he)) (by omega) (by omega) ?_
      intro v' w' ho he'
      refine wpList_nil ?_
      simp only [Act.put, List.setIfInBounds_toArray, List.set_cons_succ, List.set_cons_zero]
      exact ⟨rfl, he', ho⟩
    · obtain ⟨rfl, hk⟩ := hk
      obtain ⟨a', cap', rfl⟩ := hk.form
      go_wp2_with fail
      exact ⟨rfl, Ext.refl _, _, rfl, hk⟩
  case last =>
    intro w1 he u0 h0 u1 h1 u2 h2 u3 h3 u4 h4 u5 h5 u6 h6
    obtain ⟨s, rfl, ho⟩ := h6
    obtain ⟨a', cap', rfl⟩ := ho.form
    have hp : w1.heap[w.heap.size + 1]? = some (.cells #[.bool false, .slice none 0 0] 25 (0, 0)) := he.block (by rw [show w.heap.size + 1 = (w.alloc (.cells #[.bool n, .slice a ws.length cap] 24)).heap.size by simp]; exact heap_alloc_new _ _)
    have hE : Ext w w1 := ((Ext.alloc _ _).trans (Ext.alloc _ _)).trans he
    have c0 := blk_cell hp 0
    have c1 := blk_cell hp 1
    have f0 := blk_free hp 0
    have f1 := blk_free hp 1
    simp at c0 c1
    have HP := Lib.hid hp
    have HE := Lib.hid hE
    clear hp hE he h0 h1 h2 h3 h4 h5
    simp only [LastD, Act.put, List.setIfInBounds_toArray, List.set_cons_succ, List.set_cons_zero]
    go_wp2_with fail
    have hu : Upd (· = w.heap.size + 1) w1 ((w1.setCell ⟨w.heap.size + 1, 0, none⟩ (.bool n)).setCell ⟨w.heap.size + 1, 1, none⟩ (.slice a' ws.length cap')) := ((Upd.refl (· = w.heap.size + 1) _).setCell (by rfl) _).setCell (by rfl) _
    have hb2 := blk2_set1 (blk2_set0 HP.out (.bool n)) (.slice a' ws.length cap')
    refine bodyPost_ret (v := .agg #[.bool n, .slice a' ws.length cap']) ?_ rfl ⟨hu.ext HE.out (by omega), _, rfl, (ho.upd HP.out (by decide) hu).mono (Nat.zero_le _)⟩
    have d0 := blk_cell hb2 0
    have d1 := blk_cell hb2 1
    simp only [List.getElem?_toArray, List.getElem?_cons_zero, List.getElem?_cons_succ] at d0 d1
    generalize ((w1.setCell ⟨w.heap.size + 1, 0, none⟩ (.bool n)).setCell ⟨w.heap.size + 1, 1, none⟩ (.slice a' ws.length cap')) = w2 at d0 d1 ⊢
    simp [results, Try.results16, go_sem, d0, d1]

end Go.Proofs.Ytacmojhladdalaa
