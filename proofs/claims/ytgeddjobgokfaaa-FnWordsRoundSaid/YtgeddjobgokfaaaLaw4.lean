/- Walk of FnExactBits (printed by lawgen.py). -/
import Derived.Test.YtgeddjobgokfaaaSetU
import Derived.Test.YtgeddjobgokfaaaSame
set_option linter.unusedSimpArgs false
set_option linter.unusedVariables false
namespace Go.Proofs.Ytgeddjobgokfaaa
open Go.RowKit

/-- The words of an absolute value. -/
def IsB (L : Nat) (z : Int) (x : Value) (w : World) : Prop := ∃ ws, Own .u64 w 0 68 x ws ∧ norm ws = ws ∧ val ws = z.natAbs ∧ ws.length ≤ L

theorem IsB.ext {L : Nat} {z : Int} {x : Value} {w w' : World} (h : IsB L z x w) (he : Ext w w') : IsB L z x w' := by
  obtain ⟨ws, h1, h2⟩ := h; exact ⟨ws, h1.ext he, h2⟩

theorem implBits_b (L : Nat) (z : Int) (x : Value) (w : World) (h : IsZ L z x w) (hL : L ≤ 17592186044416) :
    Calls Try.prog 52 #[x] w (ResR (IsB L z) w) := by
  refine (implBits_z L z x w h hL).mono ?_
  rintro e w' ⟨he, s, ws, rfl, h1⟩
  exact ⟨he, s, rfl, ws, h1⟩

theorem isC_bits {L : Nat} {z : Int} {s : Value} {w : World} {ws : List Nat} (ho : Own .u64 w 0 68 s ws) (hn : norm ws = ws) (hv : val ws = z.natAbs) (hl : ws.length ≤ L) : IsC L (z.natAbs : Int) (.agg #[.bool false, s]) w := by
  refine ⟨s, ws, ?_, ho, hn, by rw [hv]; simp, hl⟩
  rw [decide_eq_false (by omega)]

end Go.Proofs.Ytgeddjobgokfaaa

