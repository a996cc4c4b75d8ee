/- A number stored in a new cell within a drawn region: what the region keeps. -/
import Derived.Test.YtocadbghhoibnaaFmtReg3
import Derived.Test.YtocadbghhoibnaaFmtMa5
set_option linter.unusedSimpArgs false
set_option linter.unusedVariables false
namespace Go.Proofs.YtocadbghhoibnaaFmt
open Go.RowKit

/-- Numbers' cells from block N0 on may be written, nothing else. -/
def UN (N0 : Nat) (w w' : World) : Prop :=
  Upd (fun k => N0 ≤ k ∧ ∃ c fr, w.heap[k]? = some (.cells c 26 fr)) w w' ∧ ∀ k x y, N0 ≤ k → w.heap[k]? = some (.cells #[x, y] 26 (0, 0)) → ∃ x' y', w'.heap[k]? = some (.cells #[x', y'] 26 (0, 0))

theorem UN.of_ext {N0 : Nat} {w w' : World} (h : Ext w w') : UN N0 w w' := ⟨h.upd, fun k x y _ hk => ⟨x, y, h.block hk⟩⟩

theorem UN.trans {N0 : Nat} {a b c : World} (h : UN N0 a b) (k : UN N0 b c) : UN N0 a c := by
  refine ⟨⟨k.1.os.trans h.1.os, k.1.tape.trans h.1.tape, k.1.output.trans h.1.output, Nat.le_trans h.1.size k.1.size, fun i hi hn => ?_⟩, fun i x y hi hx => ?_⟩
  · have h1 := h.1.block i hi hn
    rw [k.1.block i (Nat.lt_of_lt_of_le hi h.1.size) (fun q => hn (by rw [← h1]; exact q)), h1]
  · obtain ⟨x', y', h1⟩ := h.2 i x y hi hx
    exact k.2 i x' y' hi h1

theorem preUN (N0 : Nat) : PreW (UN N0) := ⟨fun w => UN.of_ext (Ext.refl w), UN.trans, fun w => UN.of_ext (Ext.drew w)⟩

theorem UN.ext {w w' : World} (h : UN w.heap.size w w') : Ext w w' := h.1.ext (Ext.refl w) (fun i hi => hi.1)

theorem IsC.un {N0 L : Nat} {z : Int} {x : Value} {w w' : World} (h : IsC L z x w) (hu : UN N0 w w') : IsC L z x w' := by
  obtain ⟨s, ws, rfl, ho, h3⟩ := h
  refine ⟨s, ws, rfl, ho.upd2 hu.1 (fun k hk hs => ?_), h3⟩
  obtain ⟨_, c, fr, hb⟩ := hs
  rcases ho.2.2 with ⟨rfl, _⟩ | ⟨g, cap, cur, rfl, _, hg, _⟩
  · cases hk
  · have : g = k := by simpa [Value.ownBlock] using hk
    subst this
    rw [hg] at hb
    simp at hb

theorem IsP.un {N0 L : Nat} {r : Option Int} {x : Value} {w w' : World} (h : IsP L r x w) (hu : UN N0 w w') : IsP L r x w' := by
  obtain ⟨n, a, l, c, h1, h2⟩ := h
  exact ⟨n, a, l, c, h1, h2.un hu⟩

def IsCf (L : Nat) (z : Int) (v : Value) (w : World) : Prop := ∃ n a l c, v = .agg #[.bool n, .slice a l c] ∧ IsC L z (.agg #[.bool n, .slice a l c]) w

theorem IsCf.un {N0 L : Nat} {z : Int} {x : Value} {w w' : World} (h : IsCf L z x w) (hu : UN N0 w w') : IsCf L z x w' := by
  obtain ⟨n, a, l, c, h1, h2⟩ := h
  exact ⟨n, a, l, c, h1, h2.un hu⟩

def AtN (N0 : Nat) (v : Value) (w : World) : Prop := ∃ p x y, v = .pointer (some ⟨p, 0, none⟩) ∧ N0 ≤ p ∧ w.heap[p]? = some (.cells #[x, y] 26 (0, 0))

theorem AtN.un {N0 : Nat} {v : Value} {w w' : World} (h : AtN N0 v w) (hu : UN N0 w w') : AtN N0 v w' := by
  obtain ⟨p, x, y, h1, h2, h3⟩ := h
  obtain ⟨x', y', h4⟩ := hu.2 p x y h2 h3
  exact ⟨p, x', y', h1, h2, h4⟩

/-- The number stands in the cell. -/
def JN (N0 L : Nat) (z : Int) (v : Value) (w : World) : Prop := ∃ p n a l c, v = .pointer (some ⟨p, 0, none⟩) ∧ N0 ≤ p ∧ w.heap[p]? = some (.cells #[.bool n, .slice a l c] 26 (0, 0)) ∧ IsC L z (.agg #[.bool n, .slice a l c]) w

theorem JN.ext {N0 L : Nat} {z : Int} {v : Value} {w w' : World} (h : JN N0 L z v w) (he : Ext w w') : JN N0 L z v w' := by
  obtain ⟨p, n, a, l, c, h1, h2, h3, h4⟩ := h
  exact ⟨p, n, a, l, c, h1, h2, he.block h3, h4.ext he⟩

theorem UN.store {N0 p : Nat} {w : World} {x y : Value} (hp : w.heap[p]? = some (.cells #[x, y] 26 (0, 0))) (hN : N0 ≤ p) (u v : Value) : UN N0 w ((w.setCell ⟨p, 0, none⟩ u).setCell ⟨p, 1, none⟩ v) := by
  obtain ⟨_, _, hu⟩ := set2 hp u v
  refine ⟨hu.mono (fun k _ hk => by subst hk; exact ⟨hN, _, _, hp⟩), fun k x' y' _ hk => ?_⟩
  by_cases e : k = p
  · subst e
    exact ⟨u, v, blk2_set1 (blk2_set0 hp u) v⟩
  · exact ⟨x', y', hu.heap hk e⟩

theorem store_J {N0 L p : Nat} {z : Int} {w : World} {x y : Value} {n : Bool} {a : Option Addr} {l c : Nat} (hp : w.heap[p]? = some (.cells #[x, y] 26 (0, 0))) (hN : N0 ≤ p) (hc : IsC L z (.agg #[.bool n, .slice a l c]) w) : JN N0 L z (.pointer (some ⟨p, 0, none⟩)) ((w.setCell ⟨p, 0, none⟩ (.bool n)).setCell ⟨p, 1, none⟩ (.slice a l c)) :=
  ⟨p, n, a, l, c, rfl, hN, blk2_set1 (blk2_set0 hp _) _, hc.un (UN.store hp hN _ _)⟩

theorem bts_head (s : ByteArray) (k : Nat) (hk : k ≤ s.size) : bts (s.extract 0 k) 0 = (bts s 0).take k := by
  unfold bts
  rw [List.drop_zero, List.drop_zero, ByteArray.data_extract, Array.toList_extract, List.extract_eq_take_drop, List.drop_zero, Nat.sub_zero, List.map_take]

theorem size_head (s : ByteArray) (k : Nat) (hk : k ≤ s.size) : (s.extract 0 k).size = k := by
  have := bts_len (s.extract 0 k) 0
  rw [bts_head s k hk, List.length_take, bts_len] at this
  omega

/-- What the five texts tell. -/
theorem under_all {s : ByteArray} {k : Nat} (h1 : 1 ≤ k) (hk : k < s.size) (h0 : 0 < s.size) (h49 : 49 ≤ s[0].toNat) (hd : ∀ c ∈ bts s 0, 48 ≤ c ∧ c ≤ 57) :
    ∃ z : Int, numS (bts s 0) 10 = some z ∧ numS (bts (s.extract 0 k ++ { data := #[95] } ++ s.extract k s.size) 0) 0 = some z ∧ numS (bts (s.extract 0 k ++ { data := #[95] } ++ s.extract k s.size) 0) 10 = none ∧ numS (bts (s.extract 0 k ++ { data := #[95, 95] } ++ s.extract k s.size) 0) 0 = none ∧ numS (bts (s ++ { data := #[95] }) 0) 0 = none := by
  have ea : bts (s.extract 0 k) 0 = (bts s 0).take k := bts_head s k (by omega)
  have ec : bts (s.extract k s.size) 0 = (bts s 0).drop k := by rw [bts_tail s k (by omega), bts_drop, Nat.add_comm]
  have hs : (bts s 0).take k ++ (bts s 0).drop k = bts s 0 := List.take_append_drop _ _
  have hlen := bts_len s 0
  obtain ⟨a', ha'⟩ : ∃ a', (bts s 0).take k = s[0].toNat :: a' := by
    rw [bts_cons h0]
    cases k with
    | zero => omega
    | succ k => exact ⟨_, rfl⟩
  have hc : (bts s 0).drop k ≠ [] := by
    intro e
    have := List.length_drop (i := k) (l := bts s 0)
    rw [e] at this
    simp at this
    omega
  have := under_law ha' (by omega) hc (fun y hy => hd y (List.mem_of_mem_take hy)) (fun y hy => hd y (List.mem_of_mem_drop hy))
  rw [hs] at this
  obtain ⟨p1, p2, p3, p4, p5⟩ := this
  refine ⟨_, p1, ?_, ?_, ?_, ?_⟩
  · rw [bts_append, bts_append, ea, ec, List.append_assoc]; exact p2
  · rw [bts_append, bts_append, ea, ec, List.append_assoc]; exact p3
  · rw [bts_append, bts_append, ea, ec, List.append_assoc]; exact p4
  · rw [bts_append]; exact p5

end Go.Proofs.YtocadbghhoibnaaFmt
