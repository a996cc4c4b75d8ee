/- Rows that are written piece by piece, and what sums and differences of words come to: plain laws. -/
import Derived.Test.YtacmojhladdalaaBase
import Derived.Test.YtacmojhladdalaaMath
import Derived.Laws.Tables
set_option linter.unusedSimpArgs false
set_option linter.unusedVariables false
namespace Go.Proofs.Ytacmojhladdalaa
open Go.RowKit

/-- A row whose cells from off on are those of l. -/
def put (c : Array Value) (off : Nat) (l : List Value) : Array Value := (c.toList.take off ++ (l ++ c.toList.drop (off + l.length))).toArray

theorem put_nil (c : Array Value) (off : Nat) : put c off [] = c := by simp [put]

theorem put_size (c : Array Value) (off : Nat) (l : List Value) (h : off + l.length ≤ c.size) : (put c off l).size = c.size := by
  simp [put]; omega

theorem put_in (c : Array Value) (off : Nat) (l : List Value) (i : Nat) (h : off ≤ c.size) (hi : i < l.length) : (put c off l)[off + i]? = l[i]? := by
  simp only [put, List.getElem?_toArray]
  rw [List.getElem?_append_right (by simp; omega), List.getElem?_append_left (by simp; omega)]
  congr 1
  simp; omega

theorem put_past (c : Array Value) (off : Nat) (l : List Value) (j : Nat) (h : off ≤ c.size) (hj : off + l.length ≤ j) : (put c off l)[j]? = c[j]? := by
  simp only [put, List.getElem?_toArray]
  rw [List.getElem?_append_right (by simp; omega), List.getElem?_append_right (by simp; omega), List.getElem?_drop]
  simp only [List.length_take, Array.length_toList, Array.getElem?_toList]
  congr 1
  omega

theorem put_before (c : Array Value) (off : Nat) (l : List Value) (j : Nat) (h : off ≤ c.size) (hj : j < off) : (put c off l)[j]? = c[j]? := by
  simp only [put, List.getElem?_toArray]
  rw [List.getElem?_append_left (by simp; omega), List.getElem?_take, if_pos hj, Array.getElem?_toList]

theorem array_ext {a b : Array Value} (h : ∀ j : Nat, a[j]? = b[j]?) : a = b := Array.ext_getElem? h

theorem put_set (c : Array Value) (off : Nat) (l : List Value) (v : Value) (h : off + l.length < c.size) : (put c off l).setIfInBounds (off + l.length) v = put c off (l ++ [v]) := by
  apply array_ext
  intro j
  have hs := put_size c off l (by omega)
  rcases Nat.lt_or_ge j off with h1 | h1
  · rw [Array.getElem?_setIfInBounds_ne (by omega), put_before _ _ _ _ (by omega) h1, put_before _ _ _ _ (by omega) h1]
  · obtain ⟨i, rfl⟩ : ∃ i, j = off + i := ⟨j - off, by omega⟩
    rcases Nat.lt_trichotomy i l.length with h2 | h2 | h2
    · rw [Array.getElem?_setIfInBounds_ne (by omega), put_in _ _ _ _ (by omega) h2, put_in _ _ _ _ (by omega) (by simp; omega), List.getElem?_append_left h2]
    · subst h2
      rw [Array.getElem?_setIfInBounds_self_of_lt (by omega), put_in _ _ _ _ (by omega) (by simp)]
      simp
    · rw [Array.getElem?_setIfInBounds_ne (by omega), put_past _ _ _ _ (by omega) (by omega), put_past _ _ _ _ (by omega) (by simp; omega)]

theorem put_put (c : Array Value) (off : Nat) (l m : List Value) (h : off + l.length + m.length ≤ c.size) : put (put c off l) (off + l.length) m = put c off (l ++ m) := by
  have hs := put_size c off l (by omega)
  apply array_ext
  intro j
  rcases Nat.lt_or_ge j off with h1 | h1
  · rw [put_before _ _ _ _ (by omega) (by omega), put_before _ _ _ _ (by omega) h1, put_before _ _ _ _ (by omega) h1]
  · obtain ⟨i, rfl⟩ : ∃ i, j = off + i := ⟨j - off, by omega⟩
    rcases Nat.lt_or_ge i l.length with h2 | h2
    · rw [put_before _ _ _ _ (by omega) (by omega), put_in _ _ _ _ (by omega) h2, put_in _ _ _ _ (by omega) (by simp; omega), List.getElem?_append_left h2]
    · obtain ⟨k, rfl⟩ : ∃ k, i = l.length + k := ⟨i - l.length, by omega⟩
      rcases Nat.lt_or_ge k m.length with h3 | h3
      · rw [← Nat.add_assoc, put_in _ _ _ _ (by omega) h3, Nat.add_assoc, put_in _ _ _ _ (by omega) (by simp; omega), List.getElem?_append_right (by omega)]
        congr 1; omega
      · rw [put_past _ _ _ _ (by omega) (by omega), put_past _ _ _ _ (by omega) (by omega), put_past _ _ _ _ (by omega) (by simp; omega)]

theorem blk_setc {w : World} {p : Nat} {c : Array Value} {T : TypeId} {fr : Nat × Nat} (h : w.heap[p]? = some (.cells c T fr)) (i : Nat) (v : Value) : (w.setCell ⟨p, i, none⟩ v).heap[p]? = some (.cells (c.setIfInBounds i v) T fr) := by
  simp only [World.setCell, Array.getElem?_modify]
  simp [h]

theorem updSetRow (w : World) (g : Nat) (cs : Array Value) : Upd (· = g) w (w.setRow g cs) :=
  ⟨rfl, rfl, rfl, by simp [World.setRow], fun k hk hn => by
    simp only [World.setRow, Array.getElem?_modify]
    rw [if_neg (fun e => hn e.symm)]⟩

theorem Upd.same {S : Nat → Prop} {a b c : World} (h : Upd S a b) (k : Upd S b c) : Upd S a c := (h.trans k).mono (fun _ _ q => q.elim id id)

/-- A cell of the world behind writes to other blocks. -/
theorem Upd.cell {S : Nat → Prop} {a b : World} (h : Upd S a b) {p : Addr} {v : Value} (hk : a.cell? p = some v) (hn : ¬ S p.block) : b.cell? p = some v := by
  have hlt := World.block_lt_of_cell? a p hk
  have := h.block p.block hlt hn
  unfold World.cell? at *
  rw [this]; exact hk

/-- The words of a list below a place. -/
theorem val_take_succ (xs : List Nat) (i : Nat) : val (xs.take (i + 1)) = val (xs.take i) + 18446744073709551616 ^ i * xs.getD i 0 := by
  by_cases h : i < xs.length
  · rw [List.take_succ_eq_append_getElem h, val_append, List.length_take, Nat.min_eq_left (by omega)]
    simp [val, h]
  · rw [List.take_of_length_le (by omega), List.take_of_length_le (by omega)]
    simp [Nat.not_lt.1 h]

theorem val_snoc (ws : List Nat) (x : Nat) : val (ws ++ [x]) = val ws + 18446744073709551616 ^ ws.length * x := by
  rw [val_append]; simp [val]

/-- One step of a sum. -/
theorem add_step {ws xs ys : List Nat} {i x y c s d : Nat} (hl : ws.length = i) (h : val ws + 18446744073709551616 ^ i * c = val (xs.take i) + val (ys.take i)) (hx : xs.getD i 0 = x) (hy : ys.getD i 0 = y) (hs : s + 18446744073709551616 * d = x + y + c) :
    val (ws ++ [s]) + 18446744073709551616 ^ (i + 1) * d = val (xs.take (i + 1)) + val (ys.take (i + 1)) := by
  rw [val_snoc, val_take_succ, val_take_succ, hx, hy, hl, Nat.pow_succ]
  generalize 18446744073709551616 ^ i = P at *
  have e1 : P * s + P * 18446744073709551616 * d = P * x + P * y + P * c := by
    rw [Nat.mul_assoc, ← Nat.mul_add, hs, Nat.mul_add, Nat.mul_add]
  omega

/-- One step of a difference. -/
theorem sub_step {ws xs ys : List Nat} {i x y c s d : Nat} (hl : ws.length = i) (h : val ws + val (ys.take i) = val (xs.take i) + 18446744073709551616 ^ i * c) (hx : xs.getD i 0 = x) (hy : ys.getD i 0 = y) (hs : s + y + c = x + 18446744073709551616 * d) :
    val (ws ++ [s]) + val (ys.take (i + 1)) = val (xs.take (i + 1)) + 18446744073709551616 ^ (i + 1) * d := by
  rw [val_snoc, val_take_succ, val_take_succ, hx, hy, hl, Nat.pow_succ]
  generalize 18446744073709551616 ^ i = P at *
  have e1 : P * s + P * y + P * c = P * x + P * 18446744073709551616 * d := by
    rw [Nat.mul_assoc, ← Nat.mul_add, ← Nat.mul_add, hs, Nat.mul_add]
  omega

theorem mem_snoc {ws : List Nat} {s B : Nat} (h : ∀ x ∈ ws, x < B) (hs : s < B) : ∀ x ∈ ws ++ [s], x < B := by
  intro x hx
  rcases List.mem_append.1 hx with h1 | h1
  · exact h x h1
  · simp at h1; omega

theorem mem_app {ws vs : List Nat} {B : Nat} (h : ∀ x ∈ ws, x < B) (hs : ∀ x ∈ vs, x < B) : ∀ x ∈ ws ++ vs, x < B := by
  intro x hx
  rcases List.mem_append.1 hx with h1 | h1
  · exact h x h1
  · exact hs x h1

theorem getD_lt {ws : List Nat} {B : Nat} (h : ∀ x ∈ ws, x < B) (hB : 0 < B) (i : Nat) : ws.getD i 0 < B := by
  by_cases hi : i < ws.length
  · rw [List.getD_eq_getElem?_getD, List.getElem?_eq_getElem hi]; exact h _ (List.getElem_mem _)
  · simpa [Nat.not_lt.1 hi] using hB

theorem words_app (k : IntKind) (a b : List Nat) : words k (a ++ b) = words k a ++ words k b := by simp [words]

end Go.Proofs.Ytacmojhladdalaa
