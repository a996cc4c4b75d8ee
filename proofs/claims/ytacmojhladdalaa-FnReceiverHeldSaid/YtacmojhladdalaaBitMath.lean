/- Bits of words and bit lengths: plain laws. -/
import Derived.Test.YtacmojhladdalaaMath
set_option linter.unusedSimpArgs false
set_option linter.unusedVariables false
namespace Go.Proofs.Ytacmojhladdalaa

/-- Bit i of a natural number; its length in bits. -/
def bitN (v i : Nat) : Nat := v / 2 ^ i % 2

def blenN (v : Nat) : Nat := if v = 0 then 0 else Nat.log2 v + 1

theorem pow64 (j : Nat) : 18446744073709551616 ^ j = 2 ^ (64 * j) := by
  rw [Nat.pow_mul]

theorem word_val (ws : List Nat) (h : ∀ x ∈ ws, x < 18446744073709551616) (j : Nat) : ws.getD j 0 = val ws / 18446744073709551616 ^ j % 18446744073709551616 := by
  rw [val_split ws j, val_drop ws j]
  have h1 := val_take_lt ws h j
  have hp := pow_pos' j
  rw [Nat.add_mul_div_left _ _ hp, Nat.div_eq_of_lt h1, Nat.zero_add]
  have h2 : ws.getD j 0 < 18446744073709551616 := by
    by_cases hj : j < ws.length
    · rw [List.getD_eq_getElem?_getD, List.getElem?_eq_getElem hj]; exact h _ (List.getElem_mem _)
    · simp [Nat.not_lt.1 hj]
  omega

theorem word_bit (ws : List Nat) (h : ∀ x ∈ ws, x < 18446744073709551616) (i : Nat) : ws.getD (i / 64) 0 / 2 ^ (i % 64) % 2 = bitN (val ws) i := by
  rw [word_val ws h, pow64, bitN]
  have e : i = 64 * (i / 64) + i % 64 := by omega
  have e1 : 2 ^ i = 2 ^ (64 * (i / 64)) * 2 ^ (i % 64) := by rw [← Nat.pow_add, ← e]
  rw [e1, ← Nat.div_div_eq_div_mul]
  generalize val ws / 2 ^ (64 * (i / 64)) = q
  have h64 : i % 64 < 64 := Nat.mod_lt _ (by decide)
  generalize i % 64 = r at h64
  have e2 : (18446744073709551616 : Nat) = 2 ^ r * (2 * 2 ^ (63 - r)) := by
    rw [← Nat.pow_succ', ← Nat.pow_add, show r + (63 - r).succ = 64 by omega]
  rw [e2, Nat.mod_mul_right_div_self, Nat.mod_mul_right_mod]

theorem blenN_zero : blenN 0 = 0 := rfl

theorem lt_blenN (v : Nat) : v < 2 ^ blenN v := by
  unfold blenN
  split
  · subst_vars; simp
  · exact Nat.lt_log2_self

theorem blenN_le (v : Nat) (h : v ≠ 0) : 2 ^ (blenN v - 1) ≤ v := by
  unfold blenN
  rw [if_neg h, Nat.add_sub_cancel]
  exact Nat.log2_self_le h

theorem blenN_unique {v n : Nat} (h1 : v < 2 ^ n) (h2 : n = 0 ∨ 2 ^ (n - 1) ≤ v) : blenN v = n := by
  rcases Nat.eq_zero_or_pos v with rfl | hv
  · rcases h2 with rfl | h2
    · rfl
    · have : 0 < 2 ^ (n - 1) := Nat.pow_pos (by decide)
      omega
  · have a1 := lt_blenN v
    have a2 := blenN_le v (by omega)
    have hn : n ≠ 0 := by rintro rfl; simp at h1; omega
    have h2' : 2 ^ (n - 1) ≤ v := h2.resolve_left hn
    have l1 : blenN v - 1 < n := (Nat.pow_lt_pow_iff_right (by decide : 1 < 2)).1 (Nat.lt_of_le_of_lt a2 h1)
    have l2 : n - 1 < blenN v := (Nat.pow_lt_pow_iff_right (by decide : 1 < 2)).1 (Nat.lt_of_le_of_lt h2' a1)
    omega

theorem blenN_le_iff (v n : Nat) : blenN v ≤ n ↔ v < 2 ^ n := by
  constructor
  · intro h; exact Nat.lt_of_lt_of_le (lt_blenN v) (Nat.pow_le_pow_right (by decide) h)
  · intro h
    rcases Nat.eq_zero_or_pos v with rfl | hv
    · exact Nat.zero_le _
    · have a2 := blenN_le v (by omega)
      have l1 : blenN v - 1 < n := (Nat.pow_lt_pow_iff_right (by decide : 1 < 2)).1 (Nat.lt_of_le_of_lt a2 h)
      omega

theorem bit_step {v n : Nat} (h : v < 2 ^ (n + 1)) (h0 : bitN v n = 0) : v < 2 ^ n := by
  unfold bitN at h0
  have hp : 0 < 2 ^ n := Nat.pow_pos (by decide)
  have h1 : v / 2 ^ n < 2 := (Nat.div_lt_iff_lt_mul hp).2 (by rw [Nat.pow_succ] at h; omega)
  have h2 : v / 2 ^ n = 0 := by
    generalize v / 2 ^ n = q at h0 h1
    omega
  rcases Nat.lt_or_ge v (2 ^ n) with h3 | h3
  · exact h3
  · have := Nat.div_pos h3 hp; omega

theorem bit_stop {v n : Nat} (h0 : bitN v n ≠ 0) : 2 ^ n ≤ v := by
  rcases Nat.lt_or_ge v (2 ^ n) with h3 | h3
  · unfold bitN at h0; rw [Nat.div_eq_of_lt h3] at h0; simp at h0
  · exact h3

theorem bitN_lt (v i : Nat) : bitN v i < 2 := Nat.mod_lt _ (by decide)

end Go.Proofs.Ytacmojhladdalaa
