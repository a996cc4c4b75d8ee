/- Words shifted to the left: plain laws. -/
import Derived.Test.YtdfknmplpjmemaaPut
import Derived.Test.YtdfknmplpjmemaaBitMath
set_option linter.unusedSimpArgs false
set_option linter.unusedVariables false
namespace Go.Proofs.Ytdfknmplpjmemaa
open Go.RowKit

/-- The words xs times 2^s, plus c. -/
def shlL (s : Nat) : Nat → List Nat → List Nat
  | _, [] => []
  | c, x :: xs => ((x % 2 ^ (64 - s)) * 2 ^ s + c) :: shlL s (x / 2 ^ (64 - s)) xs

def shlC (s : Nat) : Nat → List Nat → Nat
  | c, [] => c
  | _, x :: xs => shlC s (x / 2 ^ (64 - s)) xs

theorem pow_split {s : Nat} (hs : s ≤ 64) : 2 ^ (64 - s) * 2 ^ s = 18446744073709551616 := by
  rw [← Nat.pow_add, show 64 - s + s = 64 by omega]

theorem shl_len (s c : Nat) (xs : List Nat) : (shlL s c xs).length = xs.length := by
  induction xs generalizing c with
  | nil => rfl
  | cons x xs ih => simp [shlL, ih]

theorem shl_val (s c : Nat) (hs : s ≤ 64) (xs : List Nat) : val (shlL s c xs) + 18446744073709551616 ^ xs.length * shlC s c xs = val xs * 2 ^ s + c := by
  induction xs generalizing c with
  | nil => simp [shlL, shlC, val]
  | cons x xs ih =>
    have h := ih (x / 2 ^ (64 - s))
    simp only [shlL, shlC, val, List.length_cons, Nat.pow_succ]
    have e := pow_split hs
    have e2 : x = 2 ^ (64 - s) * (x / 2 ^ (64 - s)) + x % 2 ^ (64 - s) := (Nat.div_add_mod _ _).symm
    generalize hq : x / 2 ^ (64 - s) = q at *
    generalize hr : x % 2 ^ (64 - s) = r at *
    have e3 : x * 2 ^ s = 18446744073709551616 * q + r * 2 ^ s := by
      rw [e2, Nat.add_mul, Nat.mul_right_comm, e]
    have e4 : (x + 18446744073709551616 * val xs) * 2 ^ s = x * 2 ^ s + 18446744073709551616 * (val xs * 2 ^ s) := by
      rw [Nat.add_mul, Nat.mul_assoc]
    have e5 : 18446744073709551616 ^ xs.length * 18446744073709551616 * shlC s q xs = 18446744073709551616 * (18446744073709551616 ^ xs.length * shlC s q xs) := by
      rw [Nat.mul_comm (18446744073709551616 ^ xs.length) 18446744073709551616, Nat.mul_assoc]
    rw [e4, e5]
    omega

theorem shl_lt (s c : Nat) (hs : s ≤ 64) (xs : List Nat) (hc : c < 2 ^ s) (hb : ∀ x ∈ xs, x < 18446744073709551616) : ∀ x ∈ shlL s c xs, x < 18446744073709551616 := by
  induction xs generalizing c with
  | nil => simp [shlL]
  | cons x xs ih =>
    have e := pow_split hs
    have hp : 0 < 2 ^ (64 - s) := Nat.pow_pos (by decide)
    have h1 : x % 2 ^ (64 - s) < 2 ^ (64 - s) := Nat.mod_lt _ hp
    have h2 : x / 2 ^ (64 - s) < 2 ^ s := by
      rw [Nat.div_lt_iff_lt_mul hp, Nat.mul_comm, e]; exact hb x (by simp)
    intro y hy
    simp only [shlL, List.mem_cons] at hy
    rcases hy with rfl | hy
    · have h3 : (x % 2 ^ (64 - s) + 1) * 2 ^ s ≤ 2 ^ (64 - s) * 2 ^ s := Nat.mul_le_mul_right _ h1
      rw [Nat.add_mul] at h3
      omega
    · exact ih _ h2 (fun z hz => hb z (List.mem_cons_of_mem _ hz)) y hy

theorem shl_get (s c : Nat) (xs : List Nat) (j : Nat) (hj : j < xs.length) : (shlL s c xs).getD j 0 = (xs.getD j 0 % 2 ^ (64 - s)) * 2 ^ s + (if j = 0 then c else xs.getD (j - 1) 0 / 2 ^ (64 - s)) := by
  induction xs generalizing c j with
  | nil => simp at hj
  | cons x xs ih =>
    cases j with
    | zero => simp [shlL]
    | succ j =>
      have h := ih (x / 2 ^ (64 - s)) j (by simpa using hj)
      simp only [shlL, List.getD_cons_succ, Nat.add_sub_cancel, if_neg (Nat.succ_ne_zero j)]
      rw [h]
      cases j with
      | zero => simp
      | succ j => simp

theorem shlC_eq (s c : Nat) (xs : List Nat) (h : 0 < xs.length) : shlC s c xs = xs.getD (xs.length - 1) 0 / 2 ^ (64 - s) := by
  induction xs generalizing c with
  | nil => simp at h
  | cons x xs ih =>
    cases xs with
    | nil => simp [shlC]
    | cons y ys =>
      have := ih (x / 2 ^ (64 - s)) (by simp)
      simp only [shlC] at this ⊢
      rw [this]
      simp

theorem shl_snoc (s c : Nat) (xs : List Nat) (x : Nat) : shlL s c (xs ++ [x]) = shlL s c xs ++ [(x % 2 ^ (64 - s)) * 2 ^ s + shlC s c xs] ∧ shlC s c (xs ++ [x]) = x / 2 ^ (64 - s) := by
  induction xs generalizing c with
  | nil => simp [shlL, shlC]
  | cons y xs ih =>
    obtain ⟨h1, h2⟩ := ih (y / 2 ^ (64 - s))
    exact ⟨by simp [shlL, shlC, h1], by simp [shlC, h2]⟩

theorem put_cons (c : Array Value) (off : Nat) (l : List Value) (v : Value) (h : off + 1 + l.length ≤ c.size) : (put c (off + 1) l).setIfInBounds off v = put c off (v :: l) := by
  have hs := put_size c (off + 1) l h
  apply array_ext
  intro j
  rcases Nat.lt_trichotomy j off with h1 | h1 | h1
  · rw [Array.getElem?_setIfInBounds_ne (by omega), put_before _ _ _ _ (by omega) (by omega), put_before _ _ _ _ (by omega) h1]
  · subst h1
    have := put_in c j (v :: l) 0 (by omega) (by simp)
    rw [Nat.add_zero] at this
    rw [Array.getElem?_setIfInBounds_self_of_lt (by omega), this]; simp
  · rw [Array.getElem?_setIfInBounds_ne (by omega)]
    obtain ⟨i, rfl⟩ : ∃ i, j = off + 1 + i := ⟨j - (off + 1), by omega⟩
    rcases Nat.lt_or_ge i l.length with h2 | h2
    · rw [put_in _ _ _ _ (by omega) h2, show off + 1 + i = off + (i + 1) by omega, put_in _ _ _ _ (by omega) (by simp; omega)]
      simp
    · rw [put_past _ _ _ _ (by omega) (by omega), put_past _ _ _ _ (by omega) (by simp; omega)]

theorem words_drop (k : IntKind) (ws : List Nat) (i : Nat) (h : i < ws.length) : words k (ws.drop i) = .int k (ws.getD i 0 : Nat) :: words k (ws.drop (i + 1)) := by
  rw [List.drop_eq_getElem_cons h]
  show Value.int k (ws[i] : Nat) :: _ = _
  rw [List.getD_eq_getElem?_getD, List.getElem?_eq_getElem h]
  rfl

/-- A word's two parts, joined. -/
theorem or_parts (a b s : Nat) (h : b < 2 ^ s) : a * 2 ^ s ||| b = a * 2 ^ s + b := by
  rw [Nat.mul_comm]; exact (Nat.two_pow_add_eq_or_of_lt h a).symm

end Go.Proofs.Ytdfknmplpjmemaa
