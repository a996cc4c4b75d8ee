/- Triples: pair, impl.Neg, impl.Abs by values: contracts. -/
import Derived.Test.YtacmojhladdalaaTwo
set_option linter.unusedSimpArgs false
set_option linter.unusedVariables false
namespace Go.Proofs.Ytacmojhladdalaa
open Go.RowKit

theorem results_triple {fn : Func} {t : Tmp} (h : fn.results = #[.cell t 32]) (tmps : Array Value) {p : Nat} (ht : tmps.getD t undef = .pointer (some ⟨p, 0, none⟩)) {w : World} {x0 x1 x2 x3 x4 x5 : Value} (d0 : w.cell? ⟨p, 0, none⟩ = some x0) (d1 : w.cell? ⟨p, 1, none⟩ = some x1) (d2 : w.cell? ⟨p, 2, none⟩ = some x2) (d3 : w.cell? ⟨p, 3, none⟩ = some x3) (d4 : w.cell? ⟨p, 4, none⟩ = some x4) (d5 : w.cell? ⟨p, 5, none⟩ = some x5) :
    (results fn tmps).run Try.prog w = .ok (.agg #[x0, x1, x2, x3, x4, x5]) w := by
  simp at ht
  simp [results, h, ht, go_sem, d0, d1, d2, d3, d4, d5]

/-- Six cells, written one after the other. -/
def put6 (w : World) (p : Nat) (x0 x1 x2 x3 x4 x5 : Value) : World :=
  (((((w.setCell ⟨p, 0, none⟩ x0).setCell ⟨p, 1, none⟩ x1).setCell ⟨p, 2, none⟩ x2).setCell ⟨p, 3, none⟩ x3).setCell ⟨p, 4, none⟩ x4).setCell ⟨p, 5, none⟩ x5

theorem blk_set {w : World} {p : Nat} {c : Array Value} {T : TypeId} {fr : Nat × Nat} (h : w.heap[p]? = some (.cells c T fr)) (i : Nat) (v : Value) : (w.setCell ⟨p, i, none⟩ v).heap[p]? = some (.cells (c.setIfInBounds i v) T fr) := by
  simp only [World.setCell, Array.getElem?_modify]
  simp [h]

theorem put6_heap {w : World} {p : Nat} {y0 y1 y2 y3 y4 y5 : Value} {T : TypeId} {fr : Nat × Nat} (h : w.heap[p]? = some (.cells #[y0, y1, y2, y3, y4, y5] T fr)) (x0 x1 x2 x3 x4 x5 : Value) : (put6 w p x0 x1 x2 x3 x4 x5).heap[p]? = some (.cells #[x0, x1, x2, x3, x4, x5] T fr) := by
  have := blk_set (blk_set (blk_set (blk_set (blk_set (blk_set h 0 x0) 1 x1) 2 x2) 3 x3) 4 x4) 5 x5
  simpa [put6] using this

theorem put6_upd (w : World) (p : Nat) (x0 x1 x2 x3 x4 x5 : Value) : Upd (· = p) w (put6 w p x0 x1 x2 x3 x4 x5) :=
  ((((((Upd.refl (· = p) _).setCell (by rfl) _).setCell (by rfl) _).setCell (by rfl) _).setCell (by rfl) _).setCell (by rfl) _).setCell (by rfl) _

/-- A Triple of three numbers without zeros at their end. -/
def IsT (L : Nat) (z x y : Int) (v : Value) (w : World) : Prop := ∃ n1 s1 n2 s2 n3 s3, v = .agg #[n1, s1, n2, s2, n3, s3] ∧ IsC L z (.agg #[n1, s1]) w ∧ IsC L x (.agg #[n2, s2]) w ∧ IsC L y (.agg #[n3, s3]) w

theorem IsT.ext {L : Nat} {z x y : Int} {v : Value} {w w' : World} (h : IsT L z x y v w) (he : Ext w w') : IsT L z x y v w' := by
  obtain ⟨n1, s1, n2, s2, n3, s3, h0, h1, h2, h3⟩ := h
  exact ⟨n1, s1, n2, s2, n3, s3, h0, h1.ext he, h2.ext he, h3.ext he⟩

theorem IsC.zeroN (L : Nat) (w : World) : IsC L 0 (.agg #[.bool false, .slice none 0 0]) w := ⟨_, [], by simp, ownNil _ _, rfl, rfl, Nat.zero_le _⟩

theorem field_z (x0 x1 x2 x3 x4 x5 : Value) (w : World) : (Instr.field 32 (.agg #[x0, x1, x2, x3, x4, x5]) 0).run Try.prog w = .ok (.agg #[x0, x1]) w := by kernel_rfl

theorem field_x (x0 x1 x2 x3 x4 x5 : Value) (w : World) : (Instr.field 32 (.agg #[x0, x1, x2, x3, x4, x5]) 1).run Try.prog w = .ok (.agg #[x2, x3]) w := by kernel_rfl

theorem field_y (x0 x1 x2 x3 x4 x5 : Value) (w : World) : (Instr.field 32 (.agg #[x0, x1, x2, x3, x4, x5]) 2).run Try.prog w = .ok (.agg #[x4, x5]) w := by kernel_rfl

set_option maxHeartbeats 400000 in
theorem pair_z (L : Nat) (zc za : Int) (p q : Nat) (w : World) (hc : IntZ L zc w 0 p) (ha : IntZ L za w 0 q) (hL : L ≤ 17592186044416) :
    Calls Try.prog 70 #[.pointer (some ⟨p, 0, none⟩), .pointer (some ⟨q, 0, none⟩)] w (ResR (IsT L zc za 0) w) := by
  have HC := Lib.hid hc
  have HA := Lib.hid ha
  clear hc ha
  go_enter Try.func70, Try.ntmps70
  go_wp2_with fail
  refine (number_z L zc 0 p _ (HC.out.ext (Ext.alloc _ _)) hL).mono ?_
  rintro e w1 ⟨he, x, rfl, hx⟩
  have hp1 : w1.heap[w.heap.size]? = some (.cells #[.bool false, .slice none 0 0, .bool false, .slice none 0 0, .bool false, .slice none 0 0] 32 (0, 0)) := he.block (heap_alloc_new _ _)
  obtain ⟨n1, a1, l1, c1, rfl⟩ := hx.form
  have HX := Lib.hid hx
  have HP1 := Lib.hid hp1
  have HE := Lib.hid ((Ext.alloc _ _).trans he)
  clear hx hp1 he
  go_wp2_with fail
  refine (number_z L za 0 q _ (HA.out.ext HE.out) hL).mono ?_
  rintro e w2 ⟨he, y, rfl, hy⟩
  obtain ⟨n2, a2, l2, c2, rfl⟩ := hy.form
  have hp2 := he.block HP1.out
  have d0 := blk_cell hp2 0
  have d1 := blk_cell hp2 1
  have d2 := blk_cell hp2 2
  have d3 := blk_cell hp2 3
  have d4 := blk_cell hp2 4
  have d5 := blk_cell hp2 5
  have f0 := blk_free hp2 0
  have f1 := blk_free hp2 1
  have f2 := blk_free hp2 2
  have f3 := blk_free hp2 3
  have f4 := blk_free hp2 4
  have f5 := blk_free hp2 5
  simp at d0 d1 d2 d3 d4 d5
  have HX2 := Lib.hid (HX.out.ext he)
  have HY := Lib.hid hy
  have HP2 := Lib.hid hp2
  have HE2 := Lib.hid (HE.out.trans he)
  clear hy hp2 he
  go_wp2_with fail
  have hh := put6_heap HP2.out (.bool n1) (.slice a1 l1 c1) (.bool n2) (.slice a2 l2 c2) (.bool false) (.slice none 0 0)
  have hu := put6_upd w2 w.heap.size (.bool n1) (.slice a1 l1 c1) (.bool n2) (.slice a2 l2 c2) (.bool false) (.slice none 0 0)
  exact bodyPost_ret (results_triple rfl _ rfl (blk_cell hh 0) (blk_cell hh 1) (blk_cell hh 2) (blk_cell hh 3) (blk_cell hh 4) (blk_cell hh 5)) rfl
    ⟨hu.ext HE2.out (by omega), _, rfl, _, _, _, _, _, _, rfl, HX2.out.upd HP2.out (by decide) hu, HY.out.upd HP2.out (by decide) hu, IsC.zeroN _ _⟩

end Go.Proofs.Ytacmojhladdalaa
