/- impl.FillBytes: the contract (a deferred closure that recovers). -/
import Derived.Test.YtfpkaamldifkbaaBytes7
import Derived.Test.YtfpkaamldifkbaaBytes8
set_option linter.unusedSimpArgs false
set_option linter.unusedVariables false
namespace Go.Proofs.Ytfpkaamldifkbaa
open Go.RowKit

theorem fill_panicking (p q : Nat) (x : Value) (u : TypeId) (pv : Value) (older : List PanicEntry) (w : World) (hc : w.cell? ⟨p, 0, none⟩ = some x) (hz : w.frozen? ⟨p, 0, none⟩ = false) (hc' : (w.setCell ⟨p, 0, none⟩ (.slice none 0 0)).cell? ⟨q, 0, none⟩ = some (.bool false)) (hz' : (w.setCell ⟨p, 0, none⟩ (.slice none 0 0)).frozen? ⟨q, 0, none⟩ = false) (hx : ∃ a l c, x = .slice a l c) :
    CallsD Try.prog 33 #[.pointer (some ⟨p, 0, none⟩), .pointer (some ⟨q, 0, none⟩)] (.panicking ({ v := .iface u pv, recovered := false } :: older)) w fun e u' w' =>
      e = .returned (.tuple #[]) ∧ u' = .panicking ({ v := .iface u pv, recovered := true } :: older) ∧ w' = (w.setCell ⟨p, 0, none⟩ (.slice none 0 0)).setCell ⟨q, 0, none⟩ (.bool false) := by
  obtain ⟨a, l, c, rfl⟩ := hx
  refine callsD_of_wpS Try.func33 rfl fun c₀ cs hu => ?_
  apply wpS_seq
  apply wpS_region
  simp [wpOpsS, go_sem, recoverD, hu, Try.ntmps33, Exit.thenS]
  refine wpS_cond (t := true) (by simp [Act.eval, Array.replicate]) ?_
  simp only [if_true]
  apply wpS_region
  simp [wpOpsS, go_sem, hc, hz, hc', hz', bodyPostS, results, Try.results33]

theorem fill_idle (p q : Nat) (w : World) :
    CallsD Try.prog 33 #[.pointer (some ⟨p, 0, none⟩), .pointer (some ⟨q, 0, none⟩)] .returning w fun e u' w' => e = .returned (.tuple #[]) ∧ u' = .returning ∧ w' = w := by
  refine callsD_of_wpS Try.func33 rfl fun c₀ cs hu => ?_
  apply wpS_seq
  apply wpS_region
  simp [wpOpsS, go_sem, recoverD, hu, Try.ntmps33, Exit.thenS]
  refine wpS_cond (t := false) (by simp [Act.eval, Array.replicate]) ?_
  simp only [Bool.false_eq_true, if_false]
  refine wpS_of_wp (wp_skip ?_)
  cases c₀
  simp_all [bodyPostS, results, Try.results33]

theorem one_set {w : World} {p : Nat} {x : Value} {T : TypeId} (hp : w.heap[p]? = some (.cells #[x] T (0, 0))) (u : Value) :
    (w.setCell ⟨p, 0, none⟩ u).heap[p]? = some (.cells #[u] T (0, 0)) := by
  simp only [World.setCell, Array.getElem?_modify]
  simp [hp]

theorem two_set {w : World} {p q : Nat} {x y : Value} {T U : TypeId} (hp : w.heap[p]? = some (.cells #[x] T (0, 0))) (hq : w.heap[q]? = some (.cells #[y] U (0, 0))) (hne : q ≠ p) (u v : Value) :
    ((w.setCell ⟨p, 0, none⟩ u).setCell ⟨q, 0, none⟩ v).cell? ⟨p, 0, none⟩ = some u ∧ ((w.setCell ⟨p, 0, none⟩ u).setCell ⟨q, 0, none⟩ v).cell? ⟨q, 0, none⟩ = some v ∧ Upd (fun k => k = p ∨ k = q) w ((w.setCell ⟨p, 0, none⟩ u).setCell ⟨q, 0, none⟩ v) := by
  have h1 := one_set hp u
  have h2 : (w.setCell ⟨p, 0, none⟩ u).heap[q]? = some (.cells #[y] U (0, 0)) := by rw [Below.heap_setCell _ _ _ _ hne]; exact hq
  have h3 := one_set h2 v
  have h4 : ((w.setCell ⟨p, 0, none⟩ u).setCell ⟨q, 0, none⟩ v).heap[p]? = some (.cells #[u] T (0, 0)) := by rw [Below.heap_setCell _ _ _ _ (Ne.symm hne)]; exact h1
  exact ⟨by rw [blk_cell h4]; rfl, by rw [blk_cell h3]; rfl, ((Upd.refl _ _).setCell (.inl rfl) _).setCell (.inr rfl) _⟩

theorem Rd.updS {k : IntKind} {w w' : World} {S : Nat → Prop} {a : Option Addr} {n c : Nat} {ws : List Nat} (h : Rd k w (.slice a n c) ws) (hu : Upd S w w') (hs : ∀ b off, a = some ⟨b, off, none⟩ → ¬ S b) : Rd k w' (.slice a n c) ws := by
  obtain ⟨h1, a2, c2, q1, q2, q3, q4, q5⟩ := h
  simp at q1
  obtain ⟨rfl, rfl, rfl⟩ := q1
  refine ⟨h1, _, _, rfl, q2, q3, q4, fun i hi => ?_⟩
  obtain ⟨b, off, rfl, hc⟩ := q5 i hi
  exact ⟨b, off, rfl, hu.cell hc (hs b off rfl)⟩

set_option maxRecDepth 10000 in
set_option maxHeartbeats 1000000 in
theorem implFillBytes_z (L : Nat) (z : Int) (x v : Value) (bs : List Nat) (w : World) (h : IsZ L z x w) (hL : L ≤ 17592186044416) (hr : Rd .u8 w v bs) (hl : bs.length ≤ 140737488355328) :
    Calls Try.prog 15 #[x, v] w (ResR (IsFb bs.length z.natAbs) w) := by
  obtain ⟨n, a, l, c, rfl⟩ := h.form
  obtain ⟨a2, c2, rfl⟩ := hr.form
  have HZ := Lib.hid h
  have HR := Lib.hid hr
  clear h hr
  have hmf : ∀ (fn : Fn) (first cap : Array Value) (w : World), (Instr.makeFunc fn first cap).run Try.prog w = .ok (.func fn first cap) w := fun _ _ _ _ => rfl
  go_enter_defers Try.func15, Try.ntmps15
  go_wp2_with fail
  have g1 := (Ext.alloc ((w.alloc (.cells #[.bool n, .slice a l c] 28)).alloc (.cells #[.slice none 0 0] 26)) (.cells #[.bool false] 4)).block (heap_second w (.cells #[.bool n, .slice a l c] 28) (.cells #[.slice none 0 0] 26))
  have g2 := heap_third w (.cells #[.bool n, .slice a l c] 28) (.cells #[.slice none 0 0] 26) (.cells #[.bool false] 4)
  have hE3 : Ext w (((w.alloc (.cells #[.bool n, .slice a l c] 28)).alloc (.cells #[.slice none 0 0] 26)).alloc (.cells #[.bool false] 4)) := ((Ext.alloc _ _).trans (Ext.alloc _ _)).trans (Ext.alloc _ _)
  refine (integer_z L z _ _ (HZ.out.ext hE3) hL).mono ?_
  rintro e w1 ⟨he, p, rfl, hp, hI⟩
  have hs1 : w.heap.size + 2 < w1.heap.size := by have := he.size; simp at this; omega
  have hpl : p < w1.heap.size := by
    obtain ⟨ws, ⟨s, hI1, _⟩, _⟩ := hI
    exact (Array.getElem?_eq_some_iff.1 hI1).1
  have G1 := Lib.hid (he.block g1)
  have G2 := Lib.hid (he.block g2)
  have HE1 := Lib.hid (hE3.trans he)
  have HI := Lib.hid hI
  clear he hI hp g1 g2 hE3
  go_wp2_with (at_builtin; refine wpList_copy_words (k := .u8) (bytes := 1) rfl (.tmp 9) (.tmp 10) 26 rfl 5 Try.underlying26 infoByte w1.heap.size w1.heap.size rfl (heap_alloc_new _ _) (by omega) _ rfl bs ?r1 ?r2 ?r3 ?_)
  case r1 => exact HR.out.ext (HE1.out.trans (Ext.alloc _ _))
  case r2 => omega
  case r3 => omega
  intro v' w2 ho he2
  obtain ⟨a', c', rfl⟩ := ho.form
  have hob : ∀ k, (Value.slice a' bs.length c').ownBlock = some k → w1.heap.size ≤ k := by
    intro k hk
    rcases ho.2.2 with ⟨h3, _⟩ | ⟨g, cap, cur, h3, hb, hg, _⟩
    · rw [h3] at hk; simp [Value.ownBlock] at hk
    · rw [h3] at hk; simp [Value.ownBlock] at hk; omega
  have HOB := Lib.hid hob
  have HOA : Hid (∀ b off, a' = some ⟨b, off, none⟩ → w1.heap.size ≤ b) := Lib.hid (by
    intro b off e
    subst e
    rcases ho.2.2 with ⟨h3, _⟩ | ⟨g, cap, cur, h3, hb, hg, _⟩
    · simp at h3
    · simp at h3; omega)
  have HO := Lib.hid ho
  have HE2 := Lib.hid ((Ext.alloc _ _).trans he2)
  clear ho he2 hob
  go_wp2_with fail
  refine (intFillBytes_z L z _ p a' bs.length c' bs _ (HI.out.ext HE2.out) hL (HO.out.mono (Nat.zero_le _)) rfl hl (fun k hk => by have := HOB.out k hk; omega)).mono ?_
  rintro e w3 ⟨hu, hcase⟩
  have hE3 : Ext w w3 := hu.ext (HE1.out.trans HE2.out) (fun k hk => by have := HOB.out k hk; omega)
  have hp1 := hu.heap (HE2.out.block G1.out) (fun hk => by have := HOB.out _ hk; omega)
  have hp2 := hu.heap (HE2.out.block G2.out) (fun hk => by have := HOB.out _ hk; omega)
  have HE3 := Lib.hid hE3
  have HP1 := Lib.hid hp1
  have HP2 := Lib.hid hp2
  have c1 := blk_cell hp1 0
  have f1 := blk_free hp1 0
  have c2 := blk_cell hp2 0
  have f2 := blk_free hp2 0
  simp at c1 c2
  clear hu hE3 hp1 hp2 HE1 HE2 HO HI G1 G2 HR HZ
  have hne : w.heap.size + 2 ≠ w.heap.size + 1 := by omega
  rcases hcase with ⟨hf, rfl, hrd⟩ | ⟨hf, u, px, rfl⟩
  · have HF := Lib.hid hf
    have HRD := Lib.hid hrd
    clear hf hrd
    go_wp2_with fail
    refine leaves_cons (f := 33) (args := #[.pointer (some ⟨w.heap.size + 1, 0, none⟩), .pointer (some ⟨w.heap.size + 1 + 1, 0, none⟩)]) (by simp) (by simp [go_sem]) ?_
    refine (fill_idle _ _ _).mono ?_
    rintro e u' w'' ⟨rfl, rfl, rfl⟩
    obtain ⟨e1, e2, hu⟩ := two_set HP1.out HP2.out hne (.slice a' bs.length c') (.bool true)
    refine ⟨.tuple #[.slice a' bs.length c', .bool true], by simp [results, Try.results15, go_sem, e1, e2], hu.ext HE3.out (by intro k hk; omega), _, rfl, IsFb.yes HF.out (HRD.out.updS hu (fun b off e => by have := HOA.out b off e; omega))⟩
  · have HF := Lib.hid hf
    clear hf
    go_wp2_with fail
    obtain ⟨e1, e2, hu⟩ := two_set HP1.out HP2.out hne (.slice none 0 0) (.bool false)
    have hq : (w3.setCell ⟨w.heap.size + 1, 0, none⟩ (.slice none 0 0)).heap[w.heap.size + 2]? = some (.cells #[.bool false] 4 (0, 0)) := by rw [Below.heap_setCell _ _ _ _ hne]; exact HP2.out
    refine leaves_cons (f := 33) (args := #[.pointer (some ⟨w.heap.size + 1, 0, none⟩), .pointer (some ⟨w.heap.size + 1 + 1, 0, none⟩)]) (by simp) (by simp [go_sem]) ?_
    refine (fill_panicking _ _ _ u px [] _ c1 f1 (by have := blk_cell hq 0; simpa using this) (blk_free hq 0) ⟨none, 0, 0, rfl⟩).mono ?_
    rintro e u' w'' ⟨rfl, rfl, rfl⟩
    refine ⟨.tuple #[.slice none 0 0, .bool false], by simp [results, Try.results15, go_sem, e1, e2], hu.ext HE3.out (by intro k hk; omega), _, rfl, IsFb.no HF.out ⟨by simp, none, 0, rfl, by simp, by simp, fun _ => rfl, by simp⟩⟩

end Go.Proofs.Ytfpkaamldifkbaa
