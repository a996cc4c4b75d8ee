/- CmpAbs by values (printed by lawgen.py). -/
import Derived.Test.YtdodcmncdlnceaaDoorCmp
set_option linter.unusedSimpArgs false
set_option linter.unusedVariables false
namespace Go.Proofs.YtdodcmncdlnceaaDoor
open Go.RowKit

/-- A pointer to an Int of value z. -/
def IsI (L : Nat) (z : Int) (x : Value) (w : World) : Prop := ∃ p base, x = .pointer (some ⟨p, 0, none⟩) ∧ IntZ L z w base p

theorem IsI.ext {L : Nat} {z : Int} {x : Value} {w w' : World} (h : IsI L z x w) (he : Ext w w') : IsI L z x w' := by
  obtain ⟨p, base, h1, h2⟩ := h; exact ⟨p, base, h1, h2.ext he⟩

theorem integer_i (L : Nat) (z : Int) (x : Value) (w : World) (h : IsZ L z x w) (hL : L ≤ 17592186044416) :
    Calls Tryd.prog 13 #[x] w (ResR (IsI L z) w) := by
  refine (integer_z L z x w h hL).mono ?_
  rintro e w' ⟨he, p, rfl, hp, hI⟩
  exact ⟨he, _, rfl, p, _, rfl, hI⟩

end Go.Proofs.YtdodcmncdlnceaaDoor

