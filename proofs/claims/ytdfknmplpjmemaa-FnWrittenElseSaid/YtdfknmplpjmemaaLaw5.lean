/- FnExactCmp, FnCmpTurns, FnCmpOrder (printed by lawgen.py). -/
import Derived.Test.YtdfknmplpjmemaaCmp3
set_option linter.unusedSimpArgs false
set_option linter.unusedVariables false
namespace Go.Proofs.Ytdfknmplpjmemaa
open Go.RowKit

theorem cmpZ_zero (a b : Int) : (cmpZ a b == 0) = decide (a = b) := by
  rcases Int.lt_trichotomy a b with h | h | h
  · rw [cmpZ_lt h]; simp; omega
  · rw [cmpZ_eq h]; simp [h]
  · rw [cmpZ_gt h]; simp; omega

theorem cmpZ_swap (a b : Int) : cmpZ b a = -cmpZ a b := by
  rcases Int.lt_trichotomy a b with h | h | h
  · rw [cmpZ_lt h, cmpZ_gt h]; rfl
  · rw [cmpZ_eq h, cmpZ_eq h.symm]; rfl
  · rw [cmpZ_gt h, cmpZ_lt h]

theorem cmpZ_bd (a b : Int) : -1 ≤ cmpZ a b ∧ cmpZ a b ≤ 1 := by
  rcases cmpZ_tri a b with h | h | h <;> rw [h] <;> omega

theorem cmpZ_le {a b : Int} (h : a ≤ b) : cmpZ a b ≤ 0 := by
  rcases Int.lt_or_eq_of_le h with h | h
  · rw [cmpZ_lt h]; omega
  · rw [cmpZ_eq h]; omega

end Go.Proofs.Ytdfknmplpjmemaa

