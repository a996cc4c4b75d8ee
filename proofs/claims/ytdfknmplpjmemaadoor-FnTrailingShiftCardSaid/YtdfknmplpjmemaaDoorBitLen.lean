/- bits.Len off the shelf, nat.bitLen, (*Int).BitLen, impl.BitLen: contracts. -/
import Derived.Test.YtdfknmplpjmemaaDoorBits
import Derived.Shelf.Small.Bits
import Derived.Laws.Bits64b
set_option linter.unusedSimpArgs false
set_option linter.unusedVariables false
namespace Go.Proofs.YtdfknmplpjmemaaDoor
open Go.RowKit

theorem bitLenAux_pos {f x : Nat} (hx : x ≠ 0) : Lib.bitLenAux (f + 1) x = 1 + Lib.bitLenAux f (x / 2) := by
  simp [Lib.bitLenAux, hx]

theorem bitLenAux_eq (f x : Nat) (h : x < 2 ^ f) : Lib.bitLenAux f x = blenN x := by
  induction f generalizing x with
  | zero =>
    have : x = 0 := by simp at h; omega
    subst this; rfl
  | succ f ih =>
    by_cases hx : x = 0
    · subst hx; simp [Lib.bitLenAux, blenN]
    · rw [bitLenAux_pos hx, ih (x / 2) (by rw [Nat.pow_succ] at h; omega)]
      symm
      have h1 := lt_blenN (x / 2)
      refine blenN_unique ?_ ?_
      · rw [Nat.add_comm, Nat.pow_succ]; omega
      · right
        rw [Nat.add_sub_cancel_left]
        by_cases h2 : x / 2 = 0
        · rw [h2]; simp [blenN]; omega
        · have h3 := blenN_le (x / 2) h2
          have h4 : 0 < blenN (x / 2) := by unfold blenN; rw [if_neg h2]; omega
          have h5 : 2 ^ blenN (x / 2) = 2 ^ (blenN (x / 2) - 1) * 2 := by rw [← Nat.pow_succ]; congr 1; omega
          omega

/-- A word with its upper bits smeared downwards has the same length. -/
theorem smear (x : Nat) (hx : x < 18446744073709551616) (d : Nat) (hd : 0 < d) : ∃ s : Nat, s < 18446744073709551616 ∧ blenN s = blenN x ∧ bits .or .u64 (x : Int) ((x : Int) / (d : Int)) = (s : Int) := by
  rw [← Int.natCast_ediv]
  have hle : x / d ≤ x := Nat.div_le_self x d
  refine ⟨x ||| (x / d), ?_, ?_, bits_or_u64_nat x (x / d) hx (by omega)⟩
  · exact Nat.or_lt_two_pow (n := 64) (by omega) (by omega)
  · have h1 := lt_blenN x
    refine blenN_unique (Nat.or_lt_two_pow h1 (by omega)) ?_
    by_cases h0 : x = 0
    · subst h0; left; rfl
    · right
      have := blenN_le x h0
      have h2 : x ≤ x ||| (x / d) := Nat.left_le_or
      omega

theorem blen_words {ws : List Nat} (hb : ∀ x ∈ ws, x < 18446744073709551616) (hpos : 0 < ws.length) (h0 : ws.getD (ws.length - 1) 0 ≠ 0) : blenN (val ws) = (ws.length - 1) * 64 + blenN (ws.getD (ws.length - 1) 0) := by
  generalize ht : ws.getD (ws.length - 1) 0 = t at *
  have h1 := val_split ws (ws.length - 1)
  have h2 := val_drop ws (ws.length - 1)
  rw [show ws.length - 1 + 1 = ws.length by omega, val_drop_all ws ws.length (Nat.le_refl _), ht] at h2
  have h3 := val_take_lt ws hb (ws.length - 1)
  rw [h2, pow64] at h1
  rw [pow64] at h3
  rw [Nat.mul_comm (ws.length - 1) 64]
  generalize 64 * (ws.length - 1) = m at *
  have h4 := lt_blenN t
  have h5 := blenN_le t h0
  have h6 : 0 < blenN t := by unfold blenN; rw [if_neg h0]; omega
  refine blenN_unique ?_ (.inr ?_)
  · rw [h1, Nat.pow_add]
    have : 2 ^ m * (t + 1) ≤ 2 ^ m * 2 ^ blenN t := Nat.mul_le_mul_left _ h4
    rw [Nat.mul_add] at this
    simp only [Nat.mul_zero, Nat.add_zero, Nat.mul_one] at *
    omega
  · rw [h1, show m + blenN t - 1 = m + (blenN t - 1) by omega, Nat.pow_add]
    have : 2 ^ m * 2 ^ (blenN t - 1) ≤ 2 ^ m * t := Nat.mul_le_mul_left _ h5
    simp only [Nat.mul_zero, Nat.add_zero] at *
    omega

theorem ret_i {a b : Int} (h : a = b) : Ending.returned (.int .i64 a) = .returned (.int .i64 b) := by rw [h]

theorem last_ne {ws : List Nat} (hn : norm ws = ws) (hpos : 0 < ws.length) : ws.getD (ws.length - 1) 0 ≠ 0 := by
  intro h
  have h1 := normLen_step ws ws.length hpos (Nat.le_refl _) h
  rw [List.take_length] at h1
  have h2 := normLen_le (ws.take (ws.length - 1))
  have h3 := norm_length ws
  rw [hn] at h3
  simp at h2
  omega

end Go.Proofs.YtdfknmplpjmemaaDoor
