/- What a slice of words reads as, worlds that only grow, and an append to an empty slice: plain laws, no function of the program in sight. -/
import Derived.WalkKit
import Derived.WalkSpells
import Derived.WalkLawsBesides
import Derived.Lib.Hide
import Derived.Test.YtacmojhladdalaaReg
namespace Go.Proofs.Ytacmojhladdalaa
open Go.RowKit

/-- Nothing that was there has turned. -/
def Ext (w w' : World) : Prop := Below w.heap.size w w'

theorem Ext.refl (w : World) : Ext w w := Below.refl _ _
theorem Ext.trans {a b c : World} (h : Ext a b) (k : Ext b c) : Ext a c := Below.trans h (Below.mono k h.size)
theorem Ext.drew (w : World) : Ext w w.drew := (Below.refl _ _).drew
theorem Ext.alloc (w : World) (o : Obj) : Ext w (w.alloc o) := (Below.refl _ _).alloc (Nat.le_refl _) o
theorem preExt : PreW Ext := ⟨Ext.refl, Ext.trans, Ext.drew⟩
theorem Ext.block {w w' : World} (h : Ext w w') {k : Nat} {o : Obj} (hk : w.heap[k]? = some o) : w'.heap[k]? = some o := by
  rw [Below.block h k (Array.getElem?_eq_some_iff.1 hk).1]; exact hk
theorem Ext.cell {w w' : World} (h : Ext w w') {a : Addr} {v : Value} (hk : w.cell? a = some v) : w'.cell? a = some v := by
  rw [Below.cell h (World.block_lt_of_cell? w a hk)]; exact hk

/-- How great a number of the kind may be. -/
def lim : IntKind → Nat | .u8 => 256 | _ => 18446744073709551616

/-- The value is a slice whose elements are the words ws. -/
def Rd (k : IntKind) (w : World) (v : Value) (ws : List Nat) : Prop :=
  (∀ x ∈ ws, x < lim k) ∧ ∃ a cap, v = .slice a ws.length cap ∧ ws.length ≤ cap ∧ cap ≤ 9223372036854775807 ∧ (a = none → cap = 0) ∧
    ∀ i, i < ws.length → ∃ b off, a = some ⟨b, off, none⟩ ∧ w.cell? ⟨b, off + i, none⟩ = some (.int k (ws.getD i 0 : Nat))

theorem Rd.ext {k : IntKind} {w w' : World} {v : Value} {ws : List Nat} (h : Rd k w v ws) (he : Ext w w') : Rd k w' v ws := by
  obtain ⟨h1, a, cap, h2, h3, h4, h5, h6⟩ := h
  refine ⟨h1, a, cap, h2, h3, h4, h5, fun i hi => ?_⟩
  obtain ⟨b, off, h7, h8⟩ := h6 i hi
  exact ⟨b, off, h7, he.cell h8⟩

/-- Two shapes: no element, or a known address. -/
theorem Rd.shape {k : IntKind} {w : World} {v : Value} {ws : List Nat} (h : Rd k w v ws) :
    (ws = [] ∧ ∃ a cap, v = .slice a 0 cap ∧ cap ≤ 9223372036854775807 ∧ (a = none → cap = 0)) ∨
    (0 < ws.length ∧ ∃ b off cap, v = .slice (some ⟨b, off, none⟩) ws.length cap ∧ ws.length ≤ cap ∧ cap ≤ 9223372036854775807 ∧
      ∀ i, i < ws.length → w.cell? ⟨b, off + i, none⟩ = some (.int k (ws.getD i 0 : Nat))) := by
  obtain ⟨h1, a, cap, h2, h3, h4, h5, h6⟩ := h
  cases ws with
  | nil => exact .inl ⟨rfl, a, cap, h2, h4, h5⟩
  | cons x ws =>
    right
    obtain ⟨b, off, rfl, h8⟩ := h6 0 (by simp)
    refine ⟨by simp, b, off, cap, h2, h3, h4, fun i hi => ?_⟩
    obtain ⟨b', off', h9, h10⟩ := h6 i hi
    simp at h9
    obtain ⟨rfl, rfl⟩ := h9
    exact h10

def words (k : IntKind) (ws : List Nat) : List Value := ws.map fun x => .int k (x : Nat)

theorem words_get (k : IntKind) (ws : List Nat) (i : Nat) : (words k ws)[i]? = (ws[i]?).map fun x => .int k (x : Nat) := by simp [words]
theorem words_len (k : IntKind) (ws : List Nat) : (words k ws).length = ws.length := by simp [words]
theorem words_one (k : IntKind) (ws : List Nat) : ∀ u ∈ words k ws, u.oneCell' = true := by
  intro u hu
  obtain ⟨_, _, rfl⟩ := List.mem_map.1 hu
  rfl

/-- The value is a slice that owns its row, from block base on. -/
def Own (k : IntKind) (w : World) (base : Nat) (E : TypeId) (v : Value) (ws : List Nat) : Prop :=
  (∀ x ∈ ws, x < lim k) ∧ w.ownsRow base E 1 v ws.length (words k ws)

theorem Own.ext {k : IntKind} {w w' : World} {base : Nat} {E : TypeId} {v : Value} {ws : List Nat} (h : Own k w base E v ws) (he : Ext w w') : Own k w' base E v ws := by
  refine ⟨h.1, h.2.1, ?_⟩
  rcases h.2.2 with hn | ⟨g, cap, cur, rfl, hb, hg, rest⟩
  · exact .inl hn
  · exact .inr ⟨g, cap, cur, rfl, hb, he.block hg, rest⟩

theorem Own.mono {k : IntKind} {w : World} {base base' : Nat} {E : TypeId} {v : Value} {ws : List Nat} (h : Own k w base E v ws) (hb : base' ≤ base) : Own k w base' E v ws := by
  refine ⟨h.1, h.2.1, ?_⟩
  rcases h.2.2 with hn | ⟨g, cap, cur, rfl, hb', rest⟩
  · exact .inl hn
  · exact .inr ⟨g, cap, cur, rfl, Nat.le_trans hb hb', rest⟩

theorem ownsRow.read {k : IntKind} {w : World} {base : Nat} {E : TypeId} {v : Value} {n : Nat} {ws : List Nat} (h : w.ownsRow base E 1 v n (words k ws)) (hb : ∀ x ∈ ws, x < lim k) : Rd k w v ws := by
  have hn : ws.length = n := by have := h.1; rw [words_len] at this; omega
  subst hn
  rcases h.2 with ⟨hv, h0⟩ | ⟨g, cap, cur, hv, _, hg, hle, hcap, hsz, htake⟩
  · exact ⟨hb, none, 0, by rw [hv, h0], by omega, by omega, fun _ => rfl, fun i hi => by omega⟩
  · refine ⟨hb, _, cap, hv, hle, by simpa [maxLen] using hcap, by simp, fun i hi => ⟨g, 0, rfl, ?_⟩⟩
    rw [cell_of_row w g (0 + i) cur E (0, 0) hg, Nat.zero_add]
    have h1 : (words k ws)[i]? = some (.int k (ws.getD i 0 : Nat)) := by
      rw [words_get]; simp [hi]
    rw [← htake, List.getElem?_take, if_pos (by omega)] at h1
    simpa using h1

theorem Own.read {k : IntKind} {w : World} {base : Nat} {E : TypeId} {v : Value} {ws : List Nat} (h : Own k w base E v ws) : Rd k w v ws := ownsRow.read h.2 h.1

theorem Own.form {k : IntKind} {w : World} {base : Nat} {E : TypeId} {v : Value} {ws : List Nat} (h : Own k w base E v ws) : ∃ a c, v = .slice a ws.length c := by
  rcases h.2.2 with ⟨rfl, h0⟩ | ⟨g, cap, cur, rfl, _⟩
  · exact ⟨none, 0, by rw [h0]⟩
  · exact ⟨_, _, rfl⟩
theorem Rd.form {k : IntKind} {w : World} {v : Value} {ws : List Nat} (h : Rd k w v ws) : ∃ a c, v = .slice a ws.length c := by
  obtain ⟨_, a, c, rfl, _⟩ := h
  exact ⟨a, c, rfl⟩

theorem Rd.take {k : IntKind} {w : World} {a : Option Addr} {n cap : Nat} {ws : List Nat} (h : Rd k w (.slice a n cap) ws) (m : Nat) (hm : m ≤ n) : Rd k w (.slice a m cap) (ws.take m) := by
  obtain ⟨h1, a', cap', h2, h3, h4, h5, h6⟩ := h
  simp at h2
  obtain ⟨rfl, rfl, rfl⟩ := h2
  refine ⟨fun x hx => h1 x (List.mem_of_mem_take hx), a, cap, by simp; omega, by simp; omega, h4, h5, fun i hi => ?_⟩
  simp at hi
  obtain ⟨b, off, h7, h8⟩ := h6 i (by omega)
  refine ⟨b, off, h7, ?_⟩
  rw [h8, List.getD_eq_getElem?_getD, List.getD_eq_getElem?_getD, List.getElem?_take, if_pos (by omega)]

/-- 'append([]T{}, xs...)': a row of its own; nothing that was there has turned. -/
theorem wpList_copy_words {k : IntKind} {bytes : Nat} {P : Program} {w : World} {ops : Array Oper} {rest : List Oper} {o : Oper} {a : Act} {Q : Exit → Act → World → Prop} (hgd : o.guard = none) (s x : Operand) (t : TypeId)
    (ho : o.op = .call { callee := .builtin .append, args := #[s, x], argTypes := #[t, t] })
    (e : TypeId) (ht : P.underlying t = some (.slice e)) (hinfo : (P.info? e).map (fun i => (i.zero, i.size, i.bytes)) = some (some (.int k 0), 1, bytes))
    (base g : Nat) (hs : a.eval s = .slice (some ⟨g, 0, none⟩) 0 0) (hg : w.heap[g]? = some (.cells #[] e (0, 0))) (hgb : base ≤ g) (v : Value) (hx : a.eval x = v) (ws : List Nat) (hrd : Rd k w v ws) (hlen : ws.length * bytes ≤ 140737488355328) (hl63 : ws.length ≤ 9223372036854775807)
    (h : ∀ v' w', Own k w' base e v' ws → Ext w w' → wpList P ops Q rest (a.put o.dst v') w') : wpList P ops Q (o :: rest) a w := by
  obtain ⟨i, hi, hz, hsz, hby⟩ := info_parts hinfo
  obtain ⟨hb, ad, cap, rfl, hle, hcap, hnil, hcells⟩ := hrd
  refine wpList_plain hgd fun K hK => ?_
  have hown : w.ownsRow base e i.size (.slice (some ⟨g, 0, none⟩) 0 0) 0 [] := ⟨by simp, .inr ⟨g, 0, #[], rfl, hgb, hg, by omega, by simp [maxLen], by simp, by simp⟩⟩
  have hlt : g < w.heap.size := (Array.getElem?_eq_some_iff.1 hg).1
  cases ws with
  | nil =>
    have hown' : Own k w base e (.slice (some ⟨g, 0, none⟩) 0 0) [] := ⟨by simp, by rw [hsz] at hown; exact hown⟩
    have hrun : (Builtin.append_ #[t, t] o.type #[.slice (some ⟨g, 0, none⟩) 0 0, .slice ad 0 cap]).run P w = .ok (.slice (some ⟨g, 0, none⟩) 0 0) w := by
      cases ad with
      | none =>
        obtain rfl := hnil rfl
        exact run_append_owned_none (P := P) w base t o.type e i i.size ht hi _ 0 [] hown
      | some ad =>
        have := run_append_room (P := P) w t o.type e i ht hi g 0 0 #[] hg ad 0 cap [] (by simp) (by simp) (by simp) (by omega) (by simp)
        rw [this]
        have : (w.setRow g #[]).heap = w.heap := by
          simp only [World.setRow]
          apply Array.ext_getElem?
          intro k
          rw [Array.getElem?_modify]
          split
          · subst_vars; rw [hg]; rfl
          · rfl
        have e1 : w.setRow g #[] = w := by
          have : w.setRow g #[] = { w with heap := (w.setRow g #[]).heap } := rfl
          rw [this, ‹(w.setRow g #[]).heap = w.heap›]
        simpa using e1
    unfold Oper.wp execOp
    simp only [ho, resolve, invoke, builtin, Sem.run_bind, Sem.run_pure, Result.andThen_ok, List.map_toArray, List.map_cons, List.map_nil, hs, hx, List.length_nil, hrun]
    exact hK _ _ (h _ _ hown' (Ext.refl w))
  | cons y ws =>
    obtain ⟨b, off, rfl, _⟩ := hcells 0 (by simp)
    have hnews : ∀ j u, (words k (y :: ws))[j]? = some u → w.cell? ((⟨b, off, none⟩ : Addr).add j) = some u := by
      intro j u hu
      have hj : j < (y :: ws).length := by have := (List.getElem?_eq_some_iff.1 hu).1; rwa [words_len] at this
      obtain ⟨b', off', h9, h10⟩ := hcells j hj
      simp at h9
      obtain ⟨rfl, rfl⟩ := h9
      rw [Addr.add_lit, h10, ← hu, words_get, List.getElem?_eq_getElem hj, List.getD_eq_getElem?_getD, List.getElem?_eq_getElem hj]
      rfl
    have hpos : 0 < (y :: ws).length := by simp
    generalize hn : (y :: ws).length = n at *
    have hwl : (words k (y :: ws)).length = n := by rw [words_len, hn]
    have hr := run_append_grow (P := P) w t o.type e i _ ht hi hz ⟨g, 0, none⟩ 0 0 [] (by simp) (by simp) ⟨b, off, none⟩ n cap (words k (y :: ws)) (by rw [hwl, hsz, Nat.mul_one]) hnews (by omega) (by omega) (growslice_fits (by omega) (by rw [hby]; simpa using hlen))
    have hge := grownCap_ge w (0 + n) 0 e
    have hcm := grownCap_le_maxLen w (0 + n) 0 e (by simp only [maxLen]; omega)
    generalize grownCap w (0 + n) 0 e = c at *
    unfold Oper.wp execOp
    simp only [ho, resolve, invoke, builtin, Sem.run_bind, Sem.run_pure, Result.andThen_ok, List.map_toArray, List.map_cons, List.map_nil, hs, hx, hr]
    refine hK _ _ (h _ _ ⟨hb, ?_, .inr ⟨w.heap.size, c, _, by rw [hn, Nat.zero_add], by omega, heap_alloc_new w.drew _, by omega, hcm, ?_, ?_⟩⟩ ((Ext.drew w).trans (Ext.alloc _ _)))
    · rw [hwl, hn, Nat.mul_one]
    · simp only [Array.size_append, List.size_toArray, List.length_nil, hwl, size_zeroCells, Value.cells]
      simp; omega
    · rw [hn, Nat.mul_one]
      simp only [Array.toList_append, List.nil_append]
      rw [← hwl]
      exact List.take_left

/-- Only blocks of S, and new ones, may have turned. -/
structure Upd (S : Nat → Prop) (w w' : World) : Prop where
  os : w'.os = w.os
  tape : w'.tape = w.tape
  output : w'.output = w.output
  size : w.heap.size ≤ w'.heap.size
  block : ∀ k, k < w.heap.size → ¬ S k → w'.heap[k]? = w.heap[k]?

theorem Upd.refl (S : Nat → Prop) (w : World) : Upd S w w := ⟨rfl, rfl, rfl, Nat.le_refl _, fun _ _ _ => rfl⟩
theorem Upd.trans {S T : Nat → Prop} {a b c : World} (h : Upd S a b) (k : Upd T b c) : Upd (fun i => S i ∨ T i) a c :=
  ⟨k.os.trans h.os, k.tape.trans h.tape, k.output.trans h.output, Nat.le_trans h.size k.size, fun i hi hn => (k.block i (Nat.lt_of_lt_of_le hi h.size) (fun q => hn (.inr q))).trans (h.block i hi (fun q => hn (.inl q)))⟩
theorem Upd.mono {S T : Nat → Prop} {a b : World} (h : Upd S a b) (hs : ∀ k, k < a.heap.size → S k → T k) : Upd T a b :=
  ⟨h.os, h.tape, h.output, h.size, fun i hi hn => h.block i hi (fun q => hn (hs i hi q))⟩
theorem Upd.drew {S : Nat → Prop} {a b : World} (h : Upd S a b) : Upd S a b.drew := ⟨h.os, h.tape, h.output, h.size, h.block⟩
theorem Upd.alloc {S : Nat → Prop} {a b : World} (h : Upd S a b) (o : Obj) : Upd S a (b.alloc o) :=
  ⟨h.os, h.tape, h.output, by simp; exact Nat.le_succ_of_le h.size, fun k hk hn => by rw [Below.heap_alloc b o k (Nat.lt_of_lt_of_le hk h.size)]; exact h.block k hk hn⟩
theorem Upd.setCell {S : Nat → Prop} {a b : World} (h : Upd S a b) {p : Addr} (hp : S p.block) (v : Value) : Upd S a (b.setCell p v) :=
  ⟨h.os, h.tape, h.output, by simpa [World.setCell] using h.size, fun k hk hn => by
    rw [Below.heap_setCell b p v k (fun e => hn (e ▸ hp))]; exact h.block k hk hn⟩
theorem Upd.ext {S : Nat → Prop} {a b c : World} (h : Ext a b) (k : Upd S b c) (hs : ∀ i, S i → a.heap.size ≤ i) : Ext a c :=
  ⟨k.os.trans h.os, k.tape.trans h.tape, k.output.trans h.output, Nat.le_trans h.size k.size, fun i hi => (k.block i (Nat.lt_of_lt_of_le hi h.size) (fun q => by have := hs i q; omega)).trans (Below.block h i hi)⟩
theorem Ext.upd {S : Nat → Prop} {a b : World} (h : Ext a b) : Upd S a b := ⟨h.os, h.tape, h.output, h.size, fun k hk _ => Below.block h k hk⟩
theorem Upd.heap {S : Nat → Prop} {a b : World} (h : Upd S a b) {k : Nat} {o : Obj} (hk : a.heap[k]? = some o) (hn : ¬ S k) : b.heap[k]? = some o := by
  rw [h.block k (Array.getElem?_eq_some_iff.1 hk).1 hn]; exact hk

theorem blk2_set0 {w : World} {p : Nat} {x y : Value} {T : TypeId} {fr : Nat × Nat} (h : w.heap[p]? = some (.cells #[x, y] T fr)) (v : Value) : (w.setCell ⟨p, 0, none⟩ v).heap[p]? = some (.cells #[v, y] T fr) := by
  simp only [World.setCell, Array.getElem?_modify]
  simp [h]
theorem blk2_set1 {w : World} {p : Nat} {x y : Value} {T : TypeId} {fr : Nat × Nat} (h : w.heap[p]? = some (.cells #[x, y] T fr)) (v : Value) : (w.setCell ⟨p, 1, none⟩ v).heap[p]? = some (.cells #[x, v] T fr) := by
  simp only [World.setCell, Array.getElem?_modify]
  simp [h]
theorem blk_cell {w : World} {p : Nat} {c : Array Value} {T : TypeId} {fr : Nat × Nat} (h : w.heap[p]? = some (.cells c T fr)) (i : Nat) : w.cell? ⟨p, i, none⟩ = c[i]? := by
  simp [World.cell?, h]
theorem blk_free {w : World} {p : Nat} {c : Array Value} {T : TypeId} (h : w.heap[p]? = some (.cells c T (0, 0))) (i : Nat) : w.frozen? ⟨p, i, none⟩ = false := by
  simp [World.frozen?, h]

end Go.Proofs.Ytacmojhladdalaa
