/- The bytes of a number, the highest first: plain laws. -/
import Derived.Test.YtcdkaddgljafhaaByteMath
import Derived.Test.YtcdkaddgljafhaaBitMath
set_option linter.unusedSimpArgs false
set_option linter.unusedVariables false
namespace Go.Proofs.Ytcdkaddgljafhaa
open Go.RowKit

/-- The n lowest bytes of v, the highest first. -/
def beb (n v : Nat) : List Nat := (List.range n).map fun i => v / 256 ^ (n - 1 - i) % 256

/-- How many bytes v has. -/
def nby (v : Nat) : Nat := (blenN v + 7) / 8

theorem beb_len (n v : Nat) : (beb n v).length = n := by simp [beb]

theorem beb_get? (n v i : Nat) (h : i < n) : (beb n v)[i]? = some (v / 256 ^ (n - 1 - i) % 256) := by
  simp [beb, h]

theorem beb_get (n v i : Nat) (h : i < n) : (beb n v).getD i 0 = v / 256 ^ (n - 1 - i) % 256 := by
  rw [List.getD_eq_getElem?_getD, beb_get? n v i h]; rfl

theorem beb_lt (n v : Nat) : ∀ x ∈ beb n v, x < 256 := by
  intro x hx
  simp only [beb, List.mem_map] at hx
  obtain ⟨i, _, rfl⟩ := hx
  exact Nat.mod_lt _ (by decide)

theorem beb_ext (n v : Nat) (l : List Nat) (hl : l.length = n) (h : ∀ i, i < n → l[i]? = some (v / 256 ^ (n - 1 - i) % 256)) : l = beb n v := by
  apply List.ext_getElem?
  intro i
  by_cases hi : i < n
  · rw [h i hi, beb_get? n v i hi]
  · rw [List.getElem?_eq_none (by omega), List.getElem?_eq_none (by rw [beb_len]; omega)]

theorem beb_succ (n v : Nat) : beb (n + 1) v = (v / 256 ^ n % 256) :: beb n v := by
  symm
  refine beb_ext _ _ _ (by simp [beb_len]) fun i hi => ?_
  cases i with
  | zero => simp
  | succ i =>
    rw [List.getElem?_cons_succ, beb_get? n v i (by omega)]
    congr 3
    congr 1
    omega

theorem bev_cons (x : Nat) (a : List Nat) : bev (x :: a) = x * 256 ^ a.length + bev a := by
  unfold bev
  rw [List.reverse_cons, bv_append, List.length_reverse]
  simp [bv]
  rw [Nat.mul_comm, Nat.add_comm]

theorem bev_beb (n v : Nat) : bev (beb n v) = v % 256 ^ n := by
  induction n with
  | zero => simp [beb, bev, bv, Nat.mod_one]
  | succ n ih => rw [beb_succ, bev_cons, beb_len, ih, Nat.pow_succ, Nat.mod_mul, Nat.mul_comm, Nat.add_comm]

theorem bev_beb_fit {n v : Nat} (h : v < 256 ^ n) : bev (beb n v) = v := by rw [bev_beb, Nat.mod_eq_of_lt h]

theorem dig_mod (v t e : Nat) : (v % 256 ^ t) / 256 ^ e % 256 = if e < t then v / 256 ^ e % 256 else 0 := by
  by_cases h : e < t
  · rw [if_pos h]
    obtain ⟨d, rfl⟩ : ∃ d, t = e + (d + 1) := ⟨t - e - 1, by omega⟩
    rw [Nat.pow_add, Nat.mod_mul_right_div_self, Nat.mod_mod_of_dvd]
    rw [Nat.pow_succ]
    exact Nat.dvd_mul_left _ _
  · rw [if_neg h, Nat.div_eq_of_lt]
    have h1 : v % 256 ^ t < 256 ^ t := Nat.mod_lt _ (Nat.pow_pos (by decide))
    have h2 : 256 ^ t ≤ 256 ^ e := Nat.pow_le_pow_right (by decide) (by omega)
    omega

theorem beb_put (n v t : Nat) (h : t < n) : (beb n (v % 256 ^ t)).set (n - 1 - t) (v / 256 ^ t % 256) = beb n (v % 256 ^ (t + 1)) := by
  refine beb_ext _ _ _ (by simp [beb_len]) fun i hi => ?_
  rw [List.getElem?_set, beb_len]
  by_cases he : n - 1 - t = i
  · rw [if_pos he, if_pos (by omega), dig_mod, show n - 1 - i = t by omega, if_pos (by omega)]
  · rw [if_neg he, beb_get? _ _ _ hi, dig_mod, dig_mod]
    congr 1
    by_cases h1 : n - 1 - i < t
    · rw [if_pos h1, if_pos (by omega)]
    · rw [if_neg h1, if_neg (by omega)]

theorem beb_past (n v t : Nat) (h : n ≤ t) : beb n (v % 256 ^ t) = beb n (v % 256 ^ (t + 1)) := by
  refine beb_ext _ _ _ (by simp [beb_len]) fun i hi => ?_
  rw [beb_get? _ _ _ hi, dig_mod, dig_mod, if_pos (by omega), if_pos (by omega)]

theorem beb_zero (n : Nat) : beb n 0 = List.replicate n 0 := by
  symm
  refine beb_ext _ _ _ (by simp) fun i hi => ?_
  simp [hi]

theorem beb_drop (n v i : Nat) : (beb n v).drop i = beb (n - i) v := by
  refine beb_ext _ _ _ (by simp [beb_len]) fun j hj => ?_
  rw [List.getElem?_drop, beb_get? _ _ _ (by omega)]
  congr 4
  omega

theorem fit_iff (n v : Nat) : v < 256 ^ n ↔ nby v ≤ n := by
  rw [pow256_2, ← blenN_le_iff, nby]
  omega

theorem nby_unique {v m : Nat} (h1 : v < 256 ^ m) (h2 : m = 0 ∨ 256 ^ (m - 1) ≤ v) : nby v = m := by
  have h3 := (fit_iff m v).1 h1
  rcases h2 with h2 | h2
  · omega
  · have h4 : ¬ nby v ≤ m - 1 := fun h => by have := (fit_iff (m - 1) v).2 h; omega
    omega

theorem lt_nby (v : Nat) : v < 256 ^ nby v := (fit_iff _ _).2 (Nat.le_refl _)

theorem word_byte (ws : List Nat) (h : ∀ x ∈ ws, x < 18446744073709551616) (k j : Nat) (hj : j < 8) : val ws / 256 ^ (8 * k + j) % 256 = ws.getD k 0 / 256 ^ j % 256 := by
  obtain ⟨d, hd⟩ : ∃ d, 8 = j + (d + 1) := ⟨7 - j, by omega⟩
  have hB : (18446744073709551616 : Nat) = 256 ^ j * 256 ^ (d + 1) := by
    rw [← Nat.pow_add, ← hd]
  rw [word_val ws h k, ← pow256_8]
  conv => rhs; arg 1; arg 1; rw [hB]
  rw [Nat.mod_mul_right_div_self, Nat.mod_mod_of_dvd _ (by rw [Nat.pow_succ]; exact Nat.dvd_mul_left _ _), Nat.div_div_eq_div_mul, ← Nat.pow_add]

theorem fit_words (ws : List Nat) (h : ∀ x ∈ ws, x < 18446744073709551616) : val ws < 256 ^ (8 * ws.length) := by
  rw [pow256_8]; exact val_lt ws h

/-- The next byte behind the buffer: all fits till here, and it is 0. -/
theorem fit_next {n v t : Nat} (hn : n ≤ t) (h : v % 256 ^ t < 256 ^ n) (h0 : v / 256 ^ t % 256 = 0) : v % 256 ^ (t + 1) < 256 ^ n := by
  rw [Nat.pow_succ, Nat.mod_mul, h0]
  simpa using h

theorem fit_first {n v : Nat} : v % 256 ^ n < 256 ^ n := Nat.mod_lt _ (Nat.pow_pos (by decide))

theorem fit_not {n v t : Nat} (hn : n ≤ t) (h0 : v / 256 ^ t % 256 ≠ 0) : ¬ v < 256 ^ n := by
  intro h
  have h2 : 256 ^ n ≤ 256 ^ t := Nat.pow_le_pow_right (by decide) hn
  rw [Nat.div_eq_of_lt (by omega)] at h0
  simp at h0

theorem lead_zero {m v : Nat} (h : v < 256 ^ (m + 1)) (h0 : v / 256 ^ m % 256 = 0) : v < 256 ^ m := by
  rw [Nat.pow_succ] at h
  have h1 : v / 256 ^ m < 256 := Nat.div_lt_of_lt_mul h
  rw [Nat.mod_eq_of_lt h1] at h0
  exact (Nat.div_eq_zero_iff_lt (Nat.pow_pos (by decide))).1 h0

theorem lead_pos {m v : Nat} (h0 : v / 256 ^ m % 256 ≠ 0) : 256 ^ m ≤ v := by
  rcases Nat.lt_or_ge v (256 ^ m) with h | h
  · rw [Nat.div_eq_of_lt h] at h0; simp at h0
  · exact h

end Go.Proofs.Ytcdkaddgljafhaa
