/- SameNumber and 'same': whether two numbers have one value: contracts. -/
import Derived.Test.YtdodcmncdlnceaaDoorSpec3
set_option linter.unusedSimpArgs false
set_option linter.unusedVariables false
namespace Go.Proofs.YtdodcmncdlnceaaDoor
open Go.RowKit

/-- A number as a value, its words in a row of its own. -/
def IsO (n : Bool) (ws : List Nat) (x : Value) (w : World) : Prop := ∃ s, x = .agg #[.bool n, s] ∧ Own .u64 w 0 28 s ws

theorem IsO.ext {n : Bool} {ws : List Nat} {x : Value} {w w' : World} (h : IsO n ws x w) (he : Ext w w') : IsO n ws x w' := by
  obtain ⟨s, h1, h2⟩ := h
  exact ⟨s, h1, h2.ext he⟩

theorem sameB (n m : Bool) (a b : List Nat) : ((decide (0 < (norm a).length) && n) == (decide (0 < (norm b).length) && m) && (cmpW (norm a) (norm b) == 0)) = decide (ival n a = ival m b) := by
  rw [← ival_norm n a, ← ival_norm m b]
  have key : ∀ (ws : List Nat) (q : Bool), (decide (0 < (norm ws).length) && q) = true → val (norm ws) ≠ 0 := by
    intro ws q h h0
    rw [val_norm, ← norm_nil_iff] at h0
    rw [h0] at h
    simp at h
  have ka := key a n
  have kb := key b m
  generalize (decide (0 < (norm a).length) && n) = p at *
  generalize (decide (0 < (norm b).length) && m) = q at *
  rw [Bool.eq_iff_iff, decide_eq_true_iff, ival_eq_iff _ _ _ _ ka kb]
  simp only [Bool.and_eq_true, beq_iff_eq]
  have : cmpW (norm a) (norm b) = 0 ↔ val (norm a) = val (norm b) := by
    unfold cmpW cmpZ
    constructor
    · intro h; split at h <;> first | omega | (split at h <;> omega)
    · intro h; rw [if_neg (by omega), if_neg (by omega)]
  rw [this]

end Go.Proofs.YtdodcmncdlnceaaDoor
