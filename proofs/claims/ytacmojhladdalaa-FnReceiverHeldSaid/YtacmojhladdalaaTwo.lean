/- impl.two, impl.pair: the Ints of a receiver and an operand, and what they tell: contracts. -/
import Derived.Test.YtacmojhladdalaaNeg
set_option linter.unusedSimpArgs false
set_option linter.unusedVariables false
namespace Go.Proofs.Ytacmojhladdalaa
open Go.RowKit

/-- An Int stays what it is if neither its block nor its words' block is touched. -/
theorem IntZ.upd {S : Nat → Prop} {L : Nat} {z : Int} {w w' : World} {base q : Nat} (h : IntZ L z w base q) (hq : ¬ S q) (hg : ∀ n s, w.heap[q]? = some (.cells #[.bool n, s] 70 (0, 0)) → ∀ g, s.ownBlock = some g → ¬ S g) (hu : Upd S w w') : IntZ L z w' base q := by
  obtain ⟨ws, ⟨s, h1, h2⟩, h3⟩ := h
  refine ⟨ws, ⟨s, hu.heap h1 hq, h2.1, h2.2.1, ?_⟩, h3⟩
  rcases h2.2.2 with hn | ⟨g, cap, cur, hv, hb', hgg, rest⟩
  · exact .inl hn
  · exact .inr ⟨g, cap, cur, hv, hb', hu.heap hgg (hg _ _ h1 g (by rw [hv]; rfl)), rest⟩

/-- The block of an Int's words. -/
theorem IntZ.own {L : Nat} {z : Int} {w : World} {base q : Nat} (h : IntZ L z w base q) {n : Bool} {s : Value} (hs : w.heap[q]? = some (.cells #[.bool n, s] 70 (0, 0))) {g : Nat} (hg : s.ownBlock = some g) : base ≤ g ∧ g < w.heap.size ∧ ∃ cur, w.heap[g]? = some (.cells cur 80 (0, 0)) := by
  obtain ⟨ws, ⟨s', h1, h2⟩, h3⟩ := h
  rw [hs] at h1
  simp at h1
  obtain ⟨_, rfl⟩ := h1
  rcases h2.2.2 with ⟨rfl, _⟩ | ⟨g', cap, cur, rfl, hb', hgg, rest⟩
  · simp [Value.ownBlock] at hg
  · simp [Value.ownBlock] at hg
    subst hg
    exact ⟨hb', (Array.getElem?_eq_some_iff.1 hgg).1, cur, hgg⟩

theorem IntZ.mono {L : Nat} {z : Int} {w : World} {base base' q : Nat} (h : IntZ L z w base q) (hb : base' ≤ base) : IntZ L z w base' q := by
  obtain ⟨ws, ⟨s, h1, h2⟩, h3⟩ := h
  exact ⟨ws, ⟨s, h1, h2.mono hb⟩, h3⟩

theorem IntZ.more {L M : Nat} {z : Int} {w : World} {base q : Nat} (h : IntZ L z w base q) (hl : L ≤ M) : IntZ M z w base q := by
  obtain ⟨ws, h1, h2, h3, h4⟩ := h; exact ⟨ws, h1, h2, h3, Nat.le_trans h4 hl⟩

theorem IntZ.blk {L : Nat} {z : Int} {w : World} {base q : Nat} (h : IntZ L z w base q) : ∃ n s vs, w.heap[q]? = some (.cells #[.bool n, s] 70 (0, 0)) ∧ Own .u64 w base 80 s vs := by
  obtain ⟨ws, ⟨s, h1, h2⟩, h3⟩ := h
  exact ⟨_, s, ws, h1, h2⟩

/-- Two Ints: one and the same, or two that share nothing. -/
def TwoR (one : Bool) (L : Nat) (z : Int) (w : World) (e : Ending) (w' : World) : Prop :=
  Ext w w' ∧ ∃ p q, e = .returned (.tuple #[.pointer (some ⟨p, 0, none⟩), .pointer (some ⟨q, 0, none⟩)]) ∧ IntZ L z w' 0 q ∧ w.heap.size ≤ q ∧
    ((one = true ∧ p = q) ∨ (one = false ∧ p ≠ q ∧ ∃ n0 v0 vs, w'.heap[p]? = some (.cells #[.bool n0, v0] 70 (0, 0)) ∧ Own .u64 w' 0 80 v0 vs ∧
      (∀ w'', Upd (fun k => k = p ∨ v0.ownBlock = some k) w' w'' → IntZ L z w'' 0 q) ∧ (∀ k, (k = p ∨ v0.ownBlock = some k) → w.heap.size ≤ k)))

theorem sep_two {Lx Lz : Nat} {zx zz : Int} {w1 w2 : World} {B0 p q : Nat} (hx : IntZ Lx zx w1 B0 q) (he : Ext w1 w2) (hz : IntZ Lz zz w2 w1.heap.size p) (hp : w1.heap.size ≤ p) :
    p ≠ q ∧ ∃ n0 v0 vs, w2.heap[p]? = some (.cells #[.bool n0, v0] 70 (0, 0)) ∧ Own .u64 w2 0 80 v0 vs ∧ (∀ w'', Upd (fun k => k = p ∨ v0.ownBlock = some k) w2 w'' → IntZ Lx zx w'' 0 q) ∧ (∀ k, (k = p ∨ v0.ownBlock = some k) → w1.heap.size ≤ k) := by
  obtain ⟨nx, sx, vx, hxq, hxo⟩ := hx.blk
  have hql : q < w1.heap.size := (Array.getElem?_eq_some_iff.1 hxq).1
  obtain ⟨n0, v0, vs, hzp, hzo⟩ := hz.blk
  have hnew : ∀ k, (k = p ∨ v0.ownBlock = some k) → w1.heap.size ≤ k := by
    rintro k (rfl | hk)
    · exact hp
    · exact (hz.own hzp hk).1
  refine ⟨by omega, n0, v0, vs, hzp, hzo.zero, fun w'' hu => ?_, hnew⟩
  refine ((hx.ext he).mono (Nat.zero_le _)).upd (fun h => by have := hnew q h; omega) ?_ hu
  intro n s hs g hg hS
  have h1 := hnew g hS
  rw [he.block hxq] at hs
  simp at hs
  obtain ⟨_, rfl⟩ := hs
  have h2 := (hx.own hxq hg).2.1
  omega

set_option maxHeartbeats 400000 in
theorem two_z (k : Int) (Lz Lx : Nat) (zz zx : Int) (Z X : Value) (w : World) (hZ : IsZ Lz zz Z w) (hX : IsZ Lx zx X w) (hLz : Lz ≤ 17592186044416) (hLx : Lx ≤ 17592186044416) :
    Calls Try.prog 68 #[.int .i64 k, Z, X] w (TwoR (decide (k = 1)) Lx zx w) := by
  obtain ⟨n1, a1, l1, c1, rfl⟩ := hZ.form
  obtain ⟨n2, a2, l2, c2, rfl⟩ := hX.form
  have HZ := Lib.hid hZ
  have HX := Lib.hid hX
  clear hZ hX
  by_cases hk : k = 1
  · subst hk
    rw [show decide ((1 : Int) = 1) = true by simp]
    go_enter Try.func68, Try.ntmps68
    go_wp2_with fail
    refine (integer_z Lx zx _ _ (HX.out.ext ((Ext.alloc _ _).trans (Ext.alloc _ _))) hLx).mono ?_
    rintro e w1 ⟨he, p, rfl, hp, hI⟩
    simp only [World.size_alloc] at hp hI
    have HE := Lib.hid (((Ext.alloc _ _).trans (Ext.alloc _ _)).trans he)
    have HI := Lib.hid hI
    clear he hI
    go_wp2_with fail
    go_ret2
    exact ⟨HE.out, p, p, rfl, HI.out.mono (Nat.zero_le _), by omega, .inl ⟨rfl, rfl⟩⟩
  · rw [show decide (k = 1) = false by simp [hk]]
    have hb : (k == 1) = false := by simp [hk]
    clear hk
    go_enter Try.func68, Try.ntmps68
    go_wp2_with fail
    refine (integer_z Lx zx _ _ (HX.out.ext ((Ext.alloc _ _).trans (Ext.alloc _ _))) hLx).mono ?_
    rintro e w1 ⟨he, q, rfl, hq, hI⟩
    simp only [World.size_alloc] at hq hI
    have hcc := fun a v h => Ext.cell he (a := a) (v := v) h
    have HE := Lib.hid (((Ext.alloc _ _).trans (Ext.alloc _ _)).trans he)
    have HI := Lib.hid hI
    have hs1 := he.size
    simp only [World.size_alloc] at hs1
    clear he hI
    go_wp2_with fail
    refine (integer_z Lz zz _ _ (HZ.out.ext HE.out) hLz).mono ?_
    rintro e w2 ⟨he, p, rfl, hp, hI2⟩
    have hsep := sep_two HI.out he hI2 hp
    have HE2 := Lib.hid (HE.out.trans he)
    have HI2 := Lib.hid (HI.out.ext he)
    have HS := Lib.hid hsep
    clear he hI2 hcc hsep
    go_wp2_with fail
    go_ret2
    obtain ⟨hpq, n0, v0, vs, q1, q2, q3, q4⟩ := HS.out
    exact ⟨HE2.out, p, q, rfl, HI2.out.mono (Nat.zero_le _), by omega, .inr ⟨rfl, hpq, n0, v0, vs, q1, q2, q3, fun k hk => by have := q4 k hk; omega⟩⟩

end Go.Proofs.Ytacmojhladdalaa
