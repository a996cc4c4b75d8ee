/- low64, IsUint64, Uint64, IsInt64, Int64 of an Int by its value: contracts. -/
import Derived.Test.YtacmojhladdalaaLev
set_option linter.unusedSimpArgs false
set_option linter.unusedVariables false
namespace Go.Proofs.Ytacmojhladdalaa
open Go.RowKit

theorem low_val (ws : List Nat) (h : ∀ x ∈ ws, x < 18446744073709551616) : ws.getD 0 0 = val ws % 18446744073709551616 := by
  cases ws with
  | nil => rfl
  | cons x ws => have := h x (by simp); simp only [val, List.getD_cons_zero]; omega

theorem len_le_one {ws : List Nat} (hn : norm ws = ws) (h : ∀ x ∈ ws, x < 18446744073709551616) : ws.length ≤ 1 ↔ val ws < 18446744073709551616 := by
  constructor
  · intro hl
    match ws, hl with
    | [], _ => simp [val]
    | [x], _ => have := h x (by simp); simp only [val]; omega
  · intro hv
    rcases Nat.lt_or_ge 1 ws.length with h1 | h1
    · have hne : ws ≠ [] := by intro e; subst e; simp at h1
      have := norm_last hn hne
      have h2 : 18446744073709551616 ^ 1 ≤ 18446744073709551616 ^ (ws.length - 1) := Nat.pow_le_pow_right (by decide) (by omega)
      omega
    · exact h1

def isU (z : Int) : Bool := decide (0 ≤ z ∧ z < 18446744073709551616)

def low (z : Int) : Nat := z.natAbs % 18446744073709551616

def isI (z : Int) : Bool := decide (-9223372036854775808 ≤ z ∧ z < 9223372036854775808)

theorem wrap_small (x : Int) (h0 : -9223372036854775808 ≤ x) (h1 : x < 9223372036854775808) : wrap64 x = x := by unfold wrap64; omega

theorem wrap_great (x : Int) (h0 : 9223372036854775808 ≤ x) (h1 : x < 18446744073709551616) : wrap64 x = x - 18446744073709551616 := by unfold wrap64; omega

theorem low_lt (z : Int) : low z < 18446744073709551616 := Nat.mod_lt _ (by decide)

theorem low_eq {z : Int} (hl : z.natAbs < 18446744073709551616) : low z = z.natAbs := Nat.mod_eq_of_lt hl

theorem wrap_sign (x : Nat) (h : x < 18446744073709551616) : 0 ≤ wrap64 (x : Int) ↔ x < 9223372036854775808 := by
  rcases Nat.lt_or_ge x 9223372036854775808 with h1 | h1
  · rw [wrap_small x (by omega) (by omega)]; omega
  · rw [wrap_great x (by omega) (by omega)]; omega

theorem isI_yes {z : Int} {x : Nat} (hx : low z = x) (hl : z.natAbs < 18446744073709551616) (h0 : 0 ≤ wrap64 (x : Int)) : isI z = true := by
  subst hx
  rw [wrap_sign _ (low_lt z), low_eq hl] at h0
  exact decide_eq_true (by omega)

theorem isI_neg {z : Int} {x : Nat} (hx : low z = x) (hl : z.natAbs < 18446744073709551616) (h0 : ¬ 0 ≤ wrap64 (x : Int)) (hz : z < 0) : isI z = (wrap64 (x : Int) == wrap64 (-wrap64 (x : Int))) := by
  subst hx
  rw [wrap_sign _ (low_lt z), low_eq hl] at h0
  rw [low_eq hl, wrap_great _ (by omega) (by omega)]
  rw [Bool.eq_iff_iff, beq_iff_eq, isI, decide_eq_true_iff]
  by_cases h1 : z.natAbs = 9223372036854775808
  · rw [h1]
    have : wrap64 (-(((9223372036854775808 : Nat) : Int) - 18446744073709551616)) = -9223372036854775808 := by unfold wrap64; omega
    rw [this]
    omega
  · rw [wrap_small _ (by omega) (by omega)]
    omega

theorem isI_pos {z : Int} {x : Nat} (hx : low z = x) (hl : z.natAbs < 18446744073709551616) (h0 : ¬ 0 ≤ wrap64 (x : Int)) (hz : ¬ z < 0) : isI z = false := by
  subst hx
  rw [wrap_sign _ (low_lt z), low_eq hl] at h0
  exact decide_eq_false (by omega)

theorem isI_no {z : Int} (hl : ¬ z.natAbs < 18446744073709551616) : isI z = false := decide_eq_false (by omega)

end Go.Proofs.Ytacmojhladdalaa
