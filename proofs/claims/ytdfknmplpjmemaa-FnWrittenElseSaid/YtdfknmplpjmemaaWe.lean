/- Memory that only grows, but for words 0 that are laid behind the first M words of a row: plain laws; an append of a word 0. -/
import Derived.Test.YtdfknmplpjmemaaPut
import Derived.Test.YtdfknmplpjmemaaSpec
set_option linter.unusedSimpArgs false
set_option linter.unusedVariables false
namespace Go.Proofs.Ytdfknmplpjmemaa
open Go.RowKit

/-- The cells c' are c, but for words 0 behind the first M. -/
def Cw (M : Nat) (c c' : Array Value) : Prop := c'.size = c.size ∧ ∀ i : Nat, c'[i]? = c[i]? ∨ (M ≤ i ∧ i < c.size ∧ c'[i]? = some (.int .u64 0))

/-- Memory has grown; rows of words from block N on may have got words 0 behind their first M. -/
structure UW (N M : Nat) (w w' : World) : Prop where
  os : w'.os = w.os
  tape : w'.tape = w.tape
  output : w'.output = w.output
  size : w.heap.size ≤ w'.heap.size
  block : ∀ k, k < w.heap.size → w'.heap[k]? = w.heap[k]? ∨ (N ≤ k ∧ ∃ c c', w.heap[k]? = some (.cells c 25 (0, 0)) ∧ w'.heap[k]? = some (.cells c' 25 (0, 0)) ∧ Cw M c c')

theorem Cw.refl (M : Nat) (c : Array Value) : Cw M c c := ⟨rfl, fun _ => .inl rfl⟩

theorem Cw.trans {M : Nat} {a b c : Array Value} (h : Cw M a b) (k : Cw M b c) : Cw M a c := by
  refine ⟨k.1.trans h.1, fun i => ?_⟩
  rcases k.2 i with h1 | ⟨h1, h2, h3⟩
  · rcases h.2 i with g1 | ⟨g1, g2, g3⟩
    · exact .inl (h1.trans g1)
    · exact .inr ⟨g1, g2, h1.trans g3⟩
  · exact .inr ⟨h1, by rw [← h.1]; exact h2, h3⟩

theorem UW.of_ext {N M : Nat} {w w' : World} (h : Ext w w') : UW N M w w' := ⟨h.os, h.tape, h.output, h.size, fun k hk => .inl (Below.block h k hk)⟩

theorem UW.refl (N M : Nat) (w : World) : UW N M w w := UW.of_ext (Ext.refl w)

theorem UW.trans {N M : Nat} {a b c : World} (h : UW N M a b) (k : UW N M b c) : UW N M a c := by
  refine ⟨k.os.trans h.os, k.tape.trans h.tape, k.output.trans h.output, Nat.le_trans h.size k.size, fun i hi => ?_⟩
  rcases h.block i hi with h1 | ⟨h1, c1, c2, h2, h3, h4⟩
  · rcases k.block i (Nat.lt_of_lt_of_le hi h.size) with g1 | ⟨g1, d1, d2, g2, g3, g4⟩
    · exact .inl (g1.trans h1)
    · exact .inr ⟨g1, d1, d2, by rw [← h1]; exact g2, g3, g4⟩
  · rcases k.block i (Nat.lt_of_lt_of_le hi h.size) with g1 | ⟨g1, d1, d2, g2, g3, g4⟩
    · exact .inr ⟨h1, c1, c2, h2, g1.trans h3, h4⟩
    · rw [h3] at g2
      simp at g2
      subst g2
      exact .inr ⟨h1, c1, d2, h2, g3, h4.trans g4⟩

theorem preUW (N M : Nat) : PreW (UW N M) := ⟨UW.refl N M, UW.trans, fun w => UW.of_ext (Ext.drew w)⟩

/-- What lay below N is as it was. -/
theorem UW.ext {M : Nat} {w w' : World} (h : UW w.heap.size M w w') : Ext w w' :=
  ⟨h.os, h.tape, h.output, h.size, fun k hk => by
    rcases h.block k hk with h1 | ⟨h1, _⟩
    · exact h1
    · omega⟩

theorem Cw.row {M n : Nat} {c c' : Array Value} {xs : List Value} (h : Cw M c c') (hc : c.toList.take n = xs) (hx : ∀ i, M ≤ i → i < n → xs[i]? = some (.int .u64 0)) (hn : n ≤ c.size) : c'.toList.take n = xs := by
  apply List.ext_getElem?
  intro i
  by_cases hi : i < n
  · have e : xs[i]? = c[i]? := by rw [← hc, List.getElem?_take, if_pos hi]; simp
    rw [List.getElem?_take, if_pos hi, e]
    rcases h.2 i with h1 | ⟨h1, h2, h3⟩
    · simpa using h1
    · rw [← e, hx i h1 hi]; simpa using h3
  · have e : xs[i]? = none := by rw [← hc, List.getElem?_take, if_neg hi]
    rw [List.getElem?_take, if_neg hi, e]

/-- A row whose words behind the first M are 0 stays. -/
theorem Own.uw {N M base : Nat} {w w' : World} {v : Value} {ws : List Nat} (h : Own .u64 w base 25 v ws) (hu : UW N M w w') (hz : ∀ i, M ≤ i → i < ws.length → ws[i]? = some 0) : Own .u64 w' base 25 v ws := by
  refine ⟨h.1, h.2.1, ?_⟩
  rcases h.2.2 with hn | ⟨g, cap, cur, hv, hb, hg, hle, hcap, hsz, htake⟩
  · exact .inl hn
  · have hlt : g < w.heap.size := (Array.getElem?_eq_some_iff.1 hg).1
    rcases hu.block g hlt with h1 | ⟨h1, c, c', h2, h3, h4⟩
    · exact .inr ⟨g, cap, cur, hv, hb, by rw [h1]; exact hg, hle, hcap, hsz, htake⟩
    · rw [hg] at h2
      simp at h2
      subst h2
      refine .inr ⟨g, cap, c', hv, hb, h3, hle, hcap, by rw [h4.1]; exact hsz, h4.row htake (fun i hi hl => ?_) (by omega)⟩
      rw [words_get, hz i hi (by omega)]
      rfl

/-- The empty row; a row of one word 0; a struct's cells. -/
def At0 (N : Nat) (v : Value) (w : World) : Prop := ∃ g, v = .slice (some ⟨g, 0, none⟩) 0 0 ∧ N ≤ g ∧ w.heap[g]? = some (.cells #[] 25 (0, 0))

def At1 (v : Value) (w : World) : Prop := ∃ g, v = .slice (some ⟨g, 0, none⟩) 1 1 ∧ w.heap[g]? = some (.cells #[.int .u64 0] 25 (0, 0))

theorem At0.uw {N M : Nat} {v : Value} {w w' : World} (h : At0 N v w) (hu : UW N M w w') : At0 N v w' := by
  obtain ⟨g, h1, h2, h3⟩ := h
  refine ⟨g, h1, h2, ?_⟩
  rcases hu.block g (Array.getElem?_eq_some_iff.1 h3).1 with g1 | ⟨g1, c, c', g2, g3, g4⟩
  · rw [g1]; exact h3
  · rw [h3] at g2
    simp at g2
    subst g2
    have : c' = #[] := Array.eq_empty_of_size_eq_zero (by have := g4.1; simpa using this)
    rw [g3, this]

theorem At1.uw {N M : Nat} {v : Value} {w w' : World} (h : At1 v w) (hu : UW N M w w') : At1 v w' := by
  obtain ⟨g, h1, h3⟩ := h
  refine ⟨g, h1, ?_⟩
  rcases hu.block g (Array.getElem?_eq_some_iff.1 h3).1 with g1 | ⟨g1, c, c', g2, g3, g4⟩
  · rw [g1]; exact h3
  · rw [h3] at g2
    simp at g2
    subst g2
    have e : c' = #[.int .u64 0] := by
      apply Array.ext_getElem?
      intro i
      rcases g4.2 i with q | ⟨_, q2, q3⟩
      · exact q
      · have : i = 0 := by simp at q2; omega
        subst this
        rw [q3]; rfl
    rw [g3, e]

def AtN (N : Nat) (v : Value) (w : World) : Prop := ∃ p, v = .pointer (some ⟨p, 0, none⟩) ∧ w.heap[p]? = some (.cells #[.bool false, .slice none 0 0] 24 (0, 0)) ∧ N ≤ p

theorem AtN.uw {N N' M : Nat} {v : Value} {w w' : World} (h : AtN N v w) (hu : UW N' M w w') : AtN N v w' := by
  obtain ⟨p, h1, h3, h2⟩ := h
  refine ⟨p, h1, ?_, h2⟩
  rcases hu.block p (Array.getElem?_eq_some_iff.1 h3).1 with g1 | ⟨g1, c, c', g2, g3, g4⟩
  · rw [g1]; exact h3
  · rw [h3] at g2
    simp at g2

/-- 'append(s, 0)' of words. -/
theorem run_append_zero (w : World) (ty : TypeId) (N : Nat) (v : Value) (ws : List Nat) (hown : Own .u64 w N 25 v ws) (g2 : Nat) (hc : w.cell? ⟨g2, 0, none⟩ = some (.int .u64 0)) (hN : N ≤ w.heap.size) (hl : (ws.length + 1) * 8 ≤ 140737488355328) :
    ∃ v' w', (Builtin.append_ #[22, 22] ty #[v, .slice (some ⟨g2, 0, none⟩) 1 1]).run Try.prog w = .ok v' w' ∧ Own .u64 w' N 25 v' (ws ++ [0]) ∧ UW N ws.length w w' := by
  obtain ⟨i0, hi, hz0, hz1, hz2⟩ := info_parts infoUint
  have hnews : ∀ j u, [Value.int .u64 0][j]? = some u → w.cell? ((⟨g2, 0, none⟩ : Addr).add j) = some u := by
    intro j u hu
    cases j with
    | zero => simp at hu; subst hu; rw [show (⟨g2, 0, none⟩ : Addr).add 0 = ⟨g2, 0, none⟩ by simp [Addr.add]]; exact hc
    | succ j => simp at hu
  have h1 : ∀ u ∈ [Value.int .u64 0], u.oneCell' = true := by simp [Value.oneCell']
  obtain ⟨v', w', hr, h2, h3, _⟩ := run_append_own (P := Try.prog) w N 22 ty 25 i0 (.int .u64 0) 1 8 Try.underlying22 hi hz0 hz1 hz2 rfl (by decide) v ws.length (words .u64 ws) hown.2 ⟨g2, 0, none⟩ 1 1 [.int .u64 0] rfl hnews h1 (by simp only [maxLen]; omega) hl hN
  refine ⟨v', w', hr, ⟨mem_snoc hown.1 (by decide), by rw [words_app, List.length_append]; exact h2⟩, ?_⟩
  rcases hown.2.2 with ⟨hv, _⟩ | ⟨g, cap, cur, hv, hb, hg, hle, hcap, hsz, htake⟩
  · subst hv
    refine ⟨h3.os, h3.tape, h3.output, h3.size, fun k hk => .inl (h3.block k hk (by simp [Value.ownBlock]))⟩
  · subst hv
    by_cases hroom : ws.length + 1 ≤ cap
    · have hr2 := run_append_room (P := Try.prog) w 22 ty 25 i0 Try.underlying22 hi g ws.length cap cur hg ⟨g2, 0, none⟩ 1 1 [.int .u64 0] (by rw [hz1]; rfl) hnews h1 hroom (by rw [hz1]; simp; omega)
      rw [hr] at hr2
      injection hr2 with e1 e2
      rw [hz1, Nat.mul_one] at e2
      subst e2
      refine ⟨rfl, rfl, rfl, by simp, fun k hk => ?_⟩
      by_cases hkg : k = g
      · subst hkg
        right
        refine ⟨hb, cur, _, hg, setRow_heap w k cur _ 25 _ hg, ?_, fun i => ?_⟩
        · simp; omega
        · rcases Nat.lt_trichotomy i ws.length with h | h | h
          · left
            simp only [List.getElem?_toArray]
            rw [List.getElem?_append_left (by simp; omega), List.getElem?_append_left (by simp; omega), List.getElem?_take, if_pos h]
            simp
          · right
            subst h
            refine ⟨Nat.le_refl _, by omega, ?_⟩
            simp only [List.getElem?_toArray]
            rw [List.getElem?_append_left (by simp; omega), List.getElem?_append_right (by simp; omega)]
            simp
            rw [Nat.min_eq_left (by omega)]
            simp
          · left
            simp only [List.getElem?_toArray]
            have hlen : (cur.toList.take ws.length ++ [Value.int .u64 0]).length = ws.length + 1 := by simp; omega
            rw [List.getElem?_append_right (by omega), hlen, List.getElem?_drop, show ws.length + [Value.int IntKind.u64 0].length + (i - (ws.length + 1)) = i by simp only [List.length_singleton]; omega]
            exact Array.getElem?_toList
      · left
        exact setRow_other w g k _ (fun e => hkg e)
    · have holds : ∀ j u, (words .u64 ws)[j]? = some u → w.cell? ((⟨g, 0, none⟩ : Addr).add j) = some u := hown.2.cells (g := g) rfl
      have hr2 := run_append_grow (P := Try.prog) w 22 ty 25 i0 (.int .u64 0) Try.underlying22 hi hz0 ⟨g, 0, none⟩ ws.length cap (words .u64 ws) (by rw [hz1, words_len, Nat.mul_one]) holds ⟨g2, 0, none⟩ 1 1 [.int .u64 0] (by rw [hz1]; rfl) hnews (by omega) (by omega) (growslice_fits (by omega) (by rw [hz2]; exact hl))
      rw [hr] at hr2
      injection hr2 with e1 e2
      subst e2
      exact UW.of_ext ((Ext.drew w).trans (Ext.alloc _ _))

theorem UW.ext' {N M : Nat} {w w' : World} (h : UW N M w w') (hN : w.heap.size ≤ N) : Ext w w' :=
  ⟨h.os, h.tape, h.output, h.size, fun k hk => by
    rcases h.block k hk with h1 | ⟨h1, _⟩
    · exact h1
    · omega⟩

theorem wpList_append_zero {w : World} {ops : Array Oper} {rest : List Oper} {o : Oper} {a : Act} {Q : Exit → Act → World → Prop} (hgd : o.guard = none) (s x : Operand)
    (ho : o.op = .call { callee := .builtin .append, args := #[s, x], argTypes := #[22, 22] }) (N : Nat) (v : Value) (ws : List Nat) (hs : a.eval s = v) (hown : Own .u64 w N 25 v ws) (g2 : Nat) (hx : a.eval x = .slice (some ⟨g2, 0, none⟩) 1 1) (hc : w.cell? ⟨g2, 0, none⟩ = some (.int .u64 0)) (hN : N ≤ w.heap.size) (hl : (ws.length + 1) * 8 ≤ 140737488355328)
    (h : ∀ v' w', Own .u64 w' N 25 v' (ws ++ [0]) → UW N ws.length w w' → wpList Try.prog ops Q rest (a.put o.dst v') w') : wpList Try.prog ops Q (o :: rest) a w := by
  obtain ⟨v', w', hr, h1, h2⟩ := run_append_zero w o.type N v ws hown g2 hc hN hl
  refine wpList_plain hgd fun K hK => ?_
  unfold Oper.wp execOp
  simp only [ho, resolve, invoke, builtin, Sem.run_bind, Sem.run_pure, Result.andThen_ok, List.map_toArray, List.map_cons, List.map_nil, hs, hx, hr]
  exact hK _ _ (h v' w' h1 h2)

def OwnW (N : Nat) (ws : List Nat) (v : Value) (w : World) : Prop := Own .u64 w N 25 v ws

def NumW (N : Nat) (n : Bool) (ws : List Nat) (v : Value) (w : World) : Prop := ∃ s, v = .agg #[.bool n, s] ∧ Own .u64 w N 25 s ws

theorem zeros_last (ws : List Nat) : ∀ i, ws.length ≤ i → i < (ws ++ [0]).length → (ws ++ [0])[i]? = some 0 := by
  intro i h1 h2
  simp at h2
  obtain rfl : i = ws.length := by omega
  simp

theorem ival_app (n : Bool) (ws : List Nat) : ival n (ws ++ [0]) = ival n ws := by
  unfold ival
  rw [val_snoc, Nat.mul_zero, Nat.add_zero]

end Go.Proofs.Ytdfknmplpjmemaa
