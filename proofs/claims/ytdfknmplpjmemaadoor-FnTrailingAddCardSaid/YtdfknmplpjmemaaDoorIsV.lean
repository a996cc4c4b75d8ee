/- Words as a value; spec.integer of them: contracts. -/
import Derived.Test.YtdfknmplpjmemaaDoorSpecUp
import Derived.Test.YtdfknmplpjmemaaDoorLev
set_option linter.unusedSimpArgs false
set_option linter.unusedVariables false
namespace Go.Proofs.YtdfknmplpjmemaaDoor
open Go.RowKit

/-- Words of value t as a value. -/
def IsV (t L : Nat) (v : Value) (w : World) : Prop := ∃ rs, Own .u64 w 0 26 v rs ∧ norm rs = rs ∧ val rs = t ∧ rs.length ≤ L

theorem IsV.ext {t L : Nat} {v : Value} {w w' : World} (h : IsV t L v w) (he : Ext w w') : IsV t L v w' := by
  obtain ⟨rs, h1, h2⟩ := h; exact ⟨rs, h1.ext he, h2⟩

theorem specInteger_v (n : Bool) (t L : Nat) (v : Value) (w : World) (h : IsV t L v w) (hL : L ≤ 17592186044416) :
    Calls Tryd.prog 21 #[.bool n, v] w (ResR (IsC L (bif n then -(t : Int) else (t : Int))) w) := by
  obtain ⟨rs, h1, h2, h3, h4⟩ := h
  rw [show (bif n then -(t : Int) else (t : Int)) = ival n rs by unfold ival; rw [h3]]
  exact (specInteger_any n v rs w h1.read (by omega)).mono fun e w' h => numC_of L h4 h

end Go.Proofs.YtdfknmplpjmemaaDoor
