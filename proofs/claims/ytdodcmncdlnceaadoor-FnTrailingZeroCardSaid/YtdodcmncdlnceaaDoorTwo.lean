/- impl.two, impl.pair: the Ints of a receiver and an operand, and what they tell: contracts. -/
import Derived.Test.YtdodcmncdlnceaaDoorNeg
set_option linter.unusedSimpArgs false
set_option linter.unusedVariables false
namespace Go.Proofs.YtdodcmncdlnceaaDoor
open Go.RowKit

/-- An Int stays what it is if neither its block nor its words' block is touched. -/
theorem IntZ.upd {S : Nat → Prop} {L : Nat} {z : Int} {w w' : World} {base q : Nat} (h : IntZ L z w base q) (hq : ¬ S q) (hg : ∀ n s, w.heap[q]? = some (.cells #[.bool n, s] 48 (0, 0)) → ∀ g, s.ownBlock = some g → ¬ S g) (hu : Upd S w w') : IntZ L z w' base q := by
  obtain ⟨ws, ⟨s, h1, h2⟩, h3⟩ := h
  refine ⟨ws, ⟨s, hu.heap h1 hq, h2.1, h2.2.1, ?_⟩, h3⟩
  rcases h2.2.2 with hn | ⟨g, cap, cur, hv, hb', hgg, rest⟩
  · exact .inl hn
  · exact .inr ⟨g, cap, cur, hv, hb', hu.heap hgg (hg _ _ h1 g (by rw [hv]; rfl)), rest⟩

/-- The block of an Int's words. -/
theorem IntZ.own {L : Nat} {z : Int} {w : World} {base q : Nat} (h : IntZ L z w base q) {n : Bool} {s : Value} (hs : w.heap[q]? = some (.cells #[.bool n, s] 48 (0, 0))) {g : Nat} (hg : s.ownBlock = some g) : base ≤ g ∧ g < w.heap.size ∧ ∃ cur, w.heap[g]? = some (.cells cur 45 (0, 0)) := by
  obtain ⟨ws, ⟨s', h1, h2⟩, h3⟩ := h
  rw [hs] at h1
  simp at h1
  obtain ⟨_, rfl⟩ := h1
  rcases h2.2.2 with ⟨rfl, _⟩ | ⟨g', cap, cur, rfl, hb', hgg, rest⟩
  · simp [Value.ownBlock] at hg
  · simp [Value.ownBlock] at hg
    subst hg
    exact ⟨hb', (Array.getElem?_eq_some_iff.1 hgg).1, cur, hgg⟩

theorem IntZ.mono {L : Nat} {z : Int} {w : World} {base base' q : Nat} (h : IntZ L z w base q) (hb : base' ≤ base) : IntZ L z w base' q := by
  obtain ⟨ws, ⟨s, h1, h2⟩, h3⟩ := h
  exact ⟨ws, ⟨s, h1, h2.mono hb⟩, h3⟩

theorem IntZ.more {L M : Nat} {z : Int} {w : World} {base q : Nat} (h : IntZ L z w base q) (hl : L ≤ M) : IntZ M z w base q := by
  obtain ⟨ws, h1, h2, h3, h4⟩ := h; exact ⟨ws, h1, h2, h3, Nat.le_trans h4 hl⟩

theorem IntZ.blk {L : Nat} {z : Int} {w : World} {base q : Nat} (h : IntZ L z w base q) : ∃ n s vs, w.heap[q]? = some (.cells #[.bool n, s] 48 (0, 0)) ∧ Own .u64 w base 45 s vs := by
  obtain ⟨ws, ⟨s, h1, h2⟩, h3⟩ := h
  exact ⟨_, s, ws, h1, h2⟩

/-- Two Ints: one and the same, or two that share nothing. -/
def TwoR (one : Bool) (L : Nat) (z : Int) (w : World) (e : Ending) (w' : World) : Prop :=
  Ext w w' ∧ ∃ p q, e = .returned (.tuple #[.pointer (some ⟨p, 0, none⟩), .pointer (some ⟨q, 0, none⟩)]) ∧ IntZ L z w' 0 q ∧ w.heap.size ≤ q ∧
    ((one = true ∧ p = q) ∨ (one = false ∧ p ≠ q ∧ ∃ n0 v0 vs, w'.heap[p]? = some (.cells #[.bool n0, v0] 48 (0, 0)) ∧ Own .u64 w' 0 45 v0 vs ∧
      (∀ w'', Upd (fun k => k = p ∨ v0.ownBlock = some k) w' w'' → IntZ L z w'' 0 q) ∧ (∀ k, (k = p ∨ v0.ownBlock = some k) → w.heap.size ≤ k)))

theorem sep_two {Lx Lz : Nat} {zx zz : Int} {w1 w2 : World} {B0 p q : Nat} (hx : IntZ Lx zx w1 B0 q) (he : Ext w1 w2) (hz : IntZ Lz zz w2 w1.heap.size p) (hp : w1.heap.size ≤ p) :
    p ≠ q ∧ ∃ n0 v0 vs, w2.heap[p]? = some (.cells #[.bool n0, v0] 48 (0, 0)) ∧ Own .u64 w2 0 45 v0 vs ∧ (∀ w'', Upd (fun k => k = p ∨ v0.ownBlock = some k) w2 w'' → IntZ Lx zx w'' 0 q) ∧ (∀ k, (k = p ∨ v0.ownBlock = some k) → w1.heap.size ≤ k) := by
  obtain ⟨nx, sx, vx, hxq, hxo⟩ := hx.blk
  have hql : q < w1.heap.size := (Array.getElem?_eq_some_iff.1 hxq).1
  obtain ⟨n0, v0, vs, hzp, hzo⟩ := hz.blk
  have hnew : ∀ k, (k = p ∨ v0.ownBlock = some k) → w1.heap.size ≤ k := by
    rintro k (rfl | hk)
    · exact hp
    · exact (hz.own hzp hk).1
  refine ⟨by omega, n0, v0, vs, hzp, hzo.zero, fun w'' hu => ?_, hnew⟩
  refine ((hx.ext he).mono (Nat.zero_le _)).upd (fun h => by have := hnew q h; omega) ?_ hu
  intro n s hs g hg hS
  have h1 := hnew g hS
  rw [he.block hxq] at hs
  simp at hs
  obtain ⟨_, rfl⟩ := hs
  have h2 := (hx.own hxq hg).2.1
  omega

end Go.Proofs.YtdodcmncdlnceaaDoor
