/- nat.cmp, (*Int).CmpAbs: contracts. -/
import Derived.Test.YtdodcmncdlnceaaDoorBits
import Derived.BigQuiet
import Derived.Deep.QuietTactic
set_option linter.unusedSimpArgs false
set_option linter.unusedVariables false
namespace Go.Proofs.YtdodcmncdlnceaaDoor
open Go.RowKit

theorem val_lt_len {a b : List Nat} (ha : ∀ x ∈ a, x < 18446744073709551616) (hb : norm b = b) (h : a.length < b.length) : val a < val b := by
  have hne : b ≠ [] := by intro e; subst e; simp at h
  have h1 := norm_last hb hne
  have h2 := val_lt a ha
  have : 18446744073709551616 ^ a.length ≤ 18446744073709551616 ^ (b.length - 1) := Nat.pow_le_pow_right (by decide) (by omega)
  omega

theorem Ext.drewN (w : World) (n : Nat) : Ext w (w.drewN n) := by
  induction n with
  | zero => exact Ext.refl w
  | succ n ih => exact ih.trans (Ext.drew _)

end Go.Proofs.YtdodcmncdlnceaaDoor
