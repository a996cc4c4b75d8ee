/- What nat.add, nat.sub, nat.lsh share: contracts by values. -/
import Derived.Test.YtacmojhladdalaaPut
import Derived.Test.YtacmojhladdalaaSetWord
set_option linter.unusedSimpArgs false
set_option linter.unusedVariables false
namespace Go.Proofs.Ytacmojhladdalaa
open Go.RowKit

theorem own_open {w : World} {E : TypeId} {v : Value} {ws : List Nat} (h : Own .u64 w 0 E v ws) (hpos : 0 < ws.length) :
    ∃ g cap cur, v = .slice (some ⟨g, 0, none⟩) ws.length cap ∧ ws.length ≤ cap ∧ cap ≤ 9223372036854775807 ∧ w.heap[g]? = some (.cells cur E (0, 0)) ∧ cur.size = cap ∧ ∀ i, i < ws.length → w.cell? ⟨g, 0 + i, none⟩ = some (.int .u64 (ws.getD i 0 : Nat)) := by
  have hr := h.read
  rcases h.2.2 with ⟨_, h0⟩ | ⟨g, cap, cur, rfl, hb, hg, hle, hcap, hsz, _⟩
  · omega
  · refine ⟨g, cap, cur, rfl, hle, by simpa [maxLen] using hcap, hg, by omega, fun i hi => ?_⟩
    obtain ⟨_, a, c, q1, _, _, _, q2⟩ := hr
    obtain ⟨b', off', q3, q4⟩ := q2 i hi
    simp at q1
    obtain ⟨rfl, rfl⟩ := q1
    simp at q3
    obtain ⟨rfl, rfl⟩ := q3
    exact q4

theorem row_open {w : World} {E : TypeId} {v : Value} {n : Nat} {xs : List Value} (h : w.ownsRow 0 E 1 v n xs) (hpos : 0 < n) :
    ∃ g cap cur, v = .slice (some ⟨g, 0, none⟩) n cap ∧ n ≤ cap ∧ cap ≤ 9223372036854775807 ∧ w.heap[g]? = some (.cells cur E (0, 0)) ∧ cur.size = cap := by
  rcases h.2 with ⟨_, h0⟩ | ⟨g, cap, cur, rfl, hb, hg, hle, hcap, hsz, _⟩
  · omega
  · exact ⟨g, cap, cur, rfl, hle, by simpa [maxLen] using hcap, hg, by omega⟩

theorem own_put {w : World} {E : TypeId} {g cap : Nat} {cur : Array Value} {ws : List Nat} (hg : w.heap[g]? = some (.cells (put cur 0 (words .u64 ws)) E (0, 0))) (hs : cur.size = cap) (hl : ws.length ≤ cap) (hcap : cap ≤ 9223372036854775807) (hb : ∀ x ∈ ws, x < 18446744073709551616) :
    Own .u64 w 0 E (.slice (some ⟨g, 0, none⟩) ws.length cap) ws := by
  refine ⟨hb, by rw [words_len]; omega, .inr ⟨g, cap, _, rfl, Nat.zero_le _, hg, hl, by simpa [maxLen] using hcap, ?_, ?_⟩⟩
  · rw [put_size _ _ _ (by rw [words_len]; omega)]; omega
  · have e : (words .u64 ws).length = ws.length := words_len _ _
    simp only [put, List.take_zero, List.nil_append, Nat.mul_one]
    rw [← e]; exact List.take_left

/-- What a function of a nat z leaves, by the value. -/
def NatVR (v0 : Value) (t L : Nat) (w : World) (e : Ending) (w' : World) : Prop := ∃ ws, norm ws = ws ∧ val ws = t ∧ ws.length ≤ L ∧ NatR v0 ws w e w'

/-- What make and writes to its row leave. -/
theorem nat_done {v0 : Value} {w w1 w2 : World} {g n cap : Nat} (h : Upd (fun k => v0.ownBlock = some k) w w1 ∧ (∀ k, (Value.slice (some ⟨g, 0, none⟩) n cap).ownBlock = some k → v0.ownBlock = some k ∨ w.heap.size ≤ k) ∧ ((Value.slice (some ⟨g, 0, none⟩) n cap).ownBlock = v0.ownBlock ∨ ∀ k, (Value.slice (some ⟨g, 0, none⟩) n cap).ownBlock = some k → w.heap.size ≤ k)) (hu : Upd (· = g) w1 w2) :
    Upd (fun k => v0.ownBlock = some k) w w2 ∧ ∀ v' : Value, v'.ownBlock = (Value.slice (some ⟨g, 0, none⟩) n cap).ownBlock → (v'.ownBlock = v0.ownBlock ∨ ∀ k, v'.ownBlock = some k → w.heap.size ≤ k) := by
  obtain ⟨u1, u2, u3⟩ := h
  refine ⟨(u1.trans hu).mono ?_, fun v' hv' => by rw [hv']; exact u3⟩
  intro k hk hor
  rcases hor with q | q
  · exact q
  · subst q; exact (u2 k rfl).resolve_right (by omega)

theorem Own.cap {w : World} {E : TypeId} {a : Option Addr} {l c : Nat} {ws : List Nat} (h : Own .u64 w 0 E (.slice a l c) ws) : l = ws.length ∧ l ≤ c ∧ c ≤ 9223372036854775807 := by
  obtain ⟨_, a', c', q1, q2, q3, _⟩ := h.read
  simp at q1
  obtain ⟨rfl, rfl, rfl⟩ := q1
  exact ⟨rfl, q2, q3⟩

/-- Words of value t, in z's row or a new one. -/
def NatD (v0 : Value) (t L : Nat) (w0 : World) (v : Value) (w : World) : Prop := ∃ ws, norm ws = ws ∧ val ws = t ∧ ws.length ≤ L ∧ Own .u64 w 0 80 v ws ∧ Upd (fun k => v0.ownBlock = some k) w0 w

theorem NatD.ext {v0 : Value} {t L : Nat} {w0 : World} {v : Value} {w w' : World} (h : NatD v0 t L w0 v w) (he : Ext w w') : NatD v0 t L w0 v w' := by
  obtain ⟨ws, h1, h2, h3, h4, h5⟩ := h
  exact ⟨ws, h1, h2, h3, h4.ext he, h5.same he.upd⟩

theorem Upd.same' {S : Nat → Prop} {a b c : World} (h : Upd S a b) (k : Upd S b c) : Upd S a c := h.same k

theorem nil_of_len {xs : List Nat} (h : xs.length = 0) : val xs = 0 := by rw [List.eq_nil_of_length_eq_zero h]; rfl

end Go.Proofs.Ytacmojhladdalaa
