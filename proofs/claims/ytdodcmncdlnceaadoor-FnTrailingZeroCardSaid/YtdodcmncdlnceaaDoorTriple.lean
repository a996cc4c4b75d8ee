/- Triples: pair, impl.Neg, impl.Abs by values: contracts. -/
import Derived.Test.YtdodcmncdlnceaaDoorTwo
set_option linter.unusedSimpArgs false
set_option linter.unusedVariables false
namespace Go.Proofs.YtdodcmncdlnceaaDoor
open Go.RowKit

/-- Six cells, written one after the other. -/
def put6 (w : World) (p : Nat) (x0 x1 x2 x3 x4 x5 : Value) : World :=
  (((((w.setCell ⟨p, 0, none⟩ x0).setCell ⟨p, 1, none⟩ x1).setCell ⟨p, 2, none⟩ x2).setCell ⟨p, 3, none⟩ x3).setCell ⟨p, 4, none⟩ x4).setCell ⟨p, 5, none⟩ x5

theorem blk_set {w : World} {p : Nat} {c : Array Value} {T : TypeId} {fr : Nat × Nat} (h : w.heap[p]? = some (.cells c T fr)) (i : Nat) (v : Value) : (w.setCell ⟨p, i, none⟩ v).heap[p]? = some (.cells (c.setIfInBounds i v) T fr) := by
  simp only [World.setCell, Array.getElem?_modify]
  simp [h]

theorem put6_heap {w : World} {p : Nat} {y0 y1 y2 y3 y4 y5 : Value} {T : TypeId} {fr : Nat × Nat} (h : w.heap[p]? = some (.cells #[y0, y1, y2, y3, y4, y5] T fr)) (x0 x1 x2 x3 x4 x5 : Value) : (put6 w p x0 x1 x2 x3 x4 x5).heap[p]? = some (.cells #[x0, x1, x2, x3, x4, x5] T fr) := by
  have := blk_set (blk_set (blk_set (blk_set (blk_set (blk_set h 0 x0) 1 x1) 2 x2) 3 x3) 4 x4) 5 x5
  simpa [put6] using this

theorem put6_upd (w : World) (p : Nat) (x0 x1 x2 x3 x4 x5 : Value) : Upd (· = p) w (put6 w p x0 x1 x2 x3 x4 x5) :=
  ((((((Upd.refl (· = p) _).setCell (by rfl) _).setCell (by rfl) _).setCell (by rfl) _).setCell (by rfl) _).setCell (by rfl) _).setCell (by rfl) _

/-- A Triple of three numbers without zeros at their end. -/
def IsT (L : Nat) (z x y : Int) (v : Value) (w : World) : Prop := ∃ n1 s1 n2 s2 n3 s3, v = .agg #[n1, s1, n2, s2, n3, s3] ∧ IsC L z (.agg #[n1, s1]) w ∧ IsC L x (.agg #[n2, s2]) w ∧ IsC L y (.agg #[n3, s3]) w

theorem IsT.ext {L : Nat} {z x y : Int} {v : Value} {w w' : World} (h : IsT L z x y v w) (he : Ext w w') : IsT L z x y v w' := by
  obtain ⟨n1, s1, n2, s2, n3, s3, h0, h1, h2, h3⟩ := h
  exact ⟨n1, s1, n2, s2, n3, s3, h0, h1.ext he, h2.ext he, h3.ext he⟩

theorem IsC.zeroN (L : Nat) (w : World) : IsC L 0 (.agg #[.bool false, .slice none 0 0]) w := ⟨_, [], by simp, ownNil _ _, rfl, rfl, Nat.zero_le _⟩

end Go.Proofs.YtdodcmncdlnceaaDoor
