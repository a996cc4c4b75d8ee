/- setWord, setUint64, (*Int).SetUint64, impl.SetUint64: contracts. -/
import Derived.Test.YtacmojhladdalaaMake
set_option linter.unusedSimpArgs false
set_option linter.unusedVariables false
namespace Go.Proofs.Ytacmojhladdalaa
open Go.RowKit

/-- What a function of a nat z leaves: the words, in z's row or in a new one; nothing else has turned. -/
def NatR (v0 : Value) (ws : List Nat) (w : World) (e : Ending) (w' : World) : Prop :=
  ∃ v', e = .returned v' ∧ Own .u64 w' 0 80 v' ws ∧ Upd (fun k => v0.ownBlock = some k) w w' ∧ (v'.ownBlock = v0.ownBlock ∨ ∀ k, v'.ownBlock = some k → w.heap.size ≤ k)

theorem MakeR.upd {v0 v' : Value} {w w' : World} (h : (w' = w ∧ v'.ownBlock = v0.ownBlock) ∨ (v'.ownBlock = some w.heap.size ∧ Ext w w')) : Upd (fun k => v0.ownBlock = some k) w w' ∧ (∀ k, v'.ownBlock = some k → v0.ownBlock = some k ∨ w.heap.size ≤ k) ∧ (v'.ownBlock = v0.ownBlock ∨ ∀ k, v'.ownBlock = some k → w.heap.size ≤ k) := by
  rcases h with ⟨rfl, h⟩ | ⟨h, he⟩
  · exact ⟨Upd.refl _ _, fun k hk => .inl (h ▸ hk), .inl h⟩
  · have : ∀ k, v'.ownBlock = some k → w.heap.size ≤ k := fun k hk => by rw [h] at hk; simp at hk; omega
    exact ⟨he.upd, fun k hk => .inr (this k hk), .inr this⟩

/-- A store into a row that is owned, at its element i. -/
theorem ownsRow_set {w : World} {E : TypeId} {g n cap : Nat} {xs : List Value} (h : w.ownsRow 0 E 1 (.slice (some ⟨g, 0, none⟩) n cap) n xs) (i : Nat) (hi : i < n) (v : Value) :
    (w.setCell ⟨g, i, none⟩ v).ownsRow 0 E 1 (.slice (some ⟨g, 0, none⟩) n cap) n (xs.set i v) := by
  obtain ⟨hl, h2⟩ := h
  rcases h2 with ⟨h3, _⟩ | ⟨g', cap', cur, h3, hb, hg, hle, hcap, hsz, htake⟩
  · simp at h3
  · simp at h3
    obtain ⟨rfl, rfl⟩ := h3
    refine ⟨by simpa using hl, .inr ⟨g, cap, cur.setIfInBounds i v, rfl, hb, ?_, hle, hcap, by simpa using hsz, ?_⟩⟩
    · simp only [World.setCell, Array.getElem?_modify]
      simp [hg]
    · rw [Array.toList_setIfInBounds, List.take_set, htake]

theorem ownsRow_cell {w : World} {E : TypeId} {g n cap : Nat} {xs : List Value} (h : w.ownsRow 0 E 1 (.slice (some ⟨g, 0, none⟩) n cap) n xs) (i : Nat) (hi : i < n) :
    w.cell? ⟨g, i, none⟩ = xs[i]? ∧ w.frozen? ⟨g, i, none⟩ = false ∧ g < w.heap.size := by
  obtain ⟨hl, h2⟩ := h
  rcases h2 with ⟨h3, _⟩ | ⟨g', cap', cur, h3, hb, hg, hle, hcap, hsz, htake⟩
  · simp at h3
  · simp at h3
    obtain ⟨rfl, rfl⟩ := h3
    refine ⟨?_, blk_free hg i, (Array.getElem?_eq_some_iff.1 hg).1⟩
    rw [blk_cell hg i, ← htake, List.getElem?_take, if_pos (by omega)]
    simp

/-- The form of a row that has elements. -/
theorem ownsRow_form {w : World} {base : Nat} {E : TypeId} {v : Value} {n : Nat} {xs : List Value} (h : w.ownsRow base E 1 v n xs) (hn : 0 < n) : ∃ g cap, v = .slice (some ⟨g, 0, none⟩) n cap ∧ n ≤ cap ∧ cap ≤ 9223372036854775807 := by
  rcases h.2 with ⟨_, h3⟩ | ⟨g, cap, cur, h3, hb, hg, hle, hcap, _⟩
  · omega
  · exact ⟨g, cap, h3, hle, by simpa [maxLen] using hcap⟩

theorem Own.cut {w : World} {a : Option Addr} {l c : Nat} {ws : List Nat} (h : Own .u64 w 0 80 (.slice a l c) ws) : Own .u64 w 0 80 (.slice a 0 c) [] := by
  refine ⟨by simp, by simp [words], ?_⟩
  rcases h.2.2 with ⟨h3, _⟩ | ⟨g, cap, cur, h3, hb, hg, hle, hcap, hsz, _⟩
  · simp at h3; obtain ⟨rfl, rfl, rfl⟩ := h3; exact .inl ⟨rfl, rfl⟩
  · simp at h3; obtain ⟨rfl, rfl, rfl⟩ := h3; exact .inr ⟨g, c, cur, rfl, hb, hg, Nat.zero_le _, hcap, hsz, by simp [words]⟩

end Go.Proofs.Ytacmojhladdalaa
