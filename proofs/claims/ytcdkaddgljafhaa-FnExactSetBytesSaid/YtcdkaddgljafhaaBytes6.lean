/- (*Int).Bytes, impl.Bytes, (*Int).FillBytes: contracts. -/
import Derived.Test.YtcdkaddgljafhaaBytes5
import Derived.Test.YtcdkaddgljafhaaBytes2
set_option linter.unusedSimpArgs false
set_option linter.unusedVariables false
namespace Go.Proofs.Ytcdkaddgljafhaa
open Go.RowKit

/-- A slice that reads as these bytes. -/
def IsR8 (bs : List Nat) (x : Value) (w : World) : Prop := Rd .u8 w x bs

theorem IsR8.ext {bs : List Nat} {x : Value} {w w' : World} (h : IsR8 bs x w) (he : Ext w w') : IsR8 bs x w' := Rd.ext h he

theorem Rd.drop {k : IntKind} {w : World} {b off n cap : Nat} {ws : List Nat} (h : Rd k w (.slice (some ⟨b, off, none⟩) n cap) ws) (i : Nat) (hi : i ≤ n) : Rd k w (.slice (some ⟨b, off + i, none⟩) (n - i) (cap - i)) (ws.drop i) := by
  obtain ⟨h1, a', cap', h2, h3, h4, h5, h6⟩ := h
  simp at h2
  obtain ⟨rfl, rfl, rfl⟩ := h2
  refine ⟨fun x hx => h1 x (List.mem_of_mem_drop hx), _, _, by rw [List.length_drop], by simp; omega, by omega, by simp, fun j hj => ?_⟩
  simp at hj
  obtain ⟨b', off', h7, h8⟩ := h6 (i + j) (by omega)
  simp at h7
  obtain ⟨rfl, rfl⟩ := h7
  refine ⟨b, off + i, rfl, ?_⟩
  rw [Nat.add_assoc, h8, List.getD_eq_getElem?_getD, List.getD_eq_getElem?_getD, List.getElem?_drop]

theorem made_bytes0 (w : World) (n : Nat) (hn : n ≤ 9223372036854775807) : (w.alloc (.cells (madeCells #[Value.int .u8 0] n) 5)).ownsRow 0 5 1 (.slice (some ⟨w.heap.size, 0, none⟩) n n) n (words .u8 (List.replicate n 0)) := by
  have hs : (madeCells #[Value.int .u8 0] n).size = n := by simp [madeCells]
  refine ⟨by simp [words], .inr ⟨w.heap.size, n, _, rfl, Nat.zero_le _, heap_alloc_new _ _, Nat.le_refl _, by simpa [maxLen] using hn, by rw [hs, Nat.mul_one], ?_⟩⟩
  rw [Nat.mul_one]
  apply List.ext_getElem?
  intro j
  by_cases hj : j < n <;> simp [words, madeCells, hj, Nat.mod_one, List.getElem?_take]

theorem Own.lt {k : IntKind} {w : World} {base : Nat} {E : TypeId} {a : Option Addr} {n c : Nat} {ws : List Nat} (h : Own k w base E (.slice a n c) ws) : ∀ b off, a = some ⟨b, off, none⟩ → b < w.heap.size := by
  intro b off e
  subst e
  rcases h.2.2 with ⟨h3, _⟩ | ⟨g, cap, cur, h3, hb, hg, _⟩
  · simp at h3
  · simp at h3
    obtain ⟨⟨rfl, _⟩, _⟩ := h3
    exact (Array.getElem?_eq_some_iff.1 hg).1

set_option maxRecDepth 10000 in
set_option maxHeartbeats 1000000 in
theorem intBytes_z (L : Nat) (z : Int) (base p : Nat) (w : World) (h : IntZ L z w base p) (hL : L ≤ 17592186044416) :
    Calls Try.prog 58 #[.pointer (some ⟨p, 0, none⟩)] w (ResR (IsR8 (beb (nby z.natAbs) z.natAbs)) w) := by
  obtain ⟨a, c, ws, hp, ho, hn, hv, hl⟩ := h.low
  have c0 := blk_cell hp 0
  have c1 := blk_cell hp 1
  simp at c0 c1
  have hpl : p < w.heap.size := (Array.getElem?_eq_some_iff.1 hp).1
  rw [← hv]
  have hfit : val ws < 256 ^ (ws.length * 8) := by rw [Nat.mul_comm]; exact fit_words ws ho.1
  have hpos : 0 < ws.length → 0 < nby (val ws) := by
    intro h0
    rcases Nat.eq_zero_or_pos (nby (val ws)) with h1 | h1
    · have := lt_nby (val ws)
      rw [h1] at this
      have h2 := (len_pos_iff hn).1 h0
      simp at this
      omega
    · exact h1
  have hle := (fit_iff _ _).1 hfit
  have HRD := Lib.hid ho.read
  have HSEP : Hid (∀ b off, a = some ⟨b, off, none⟩ → b < w.heap.size) := Lib.hid ho.lt
  generalize hvv : val ws = v at *
  have HVV := Lib.hid hvv
  clear hvv
  obtain ⟨i0, hi, hz0, hz1, hz2⟩ := info_parts infoByte
  have hmk := fun wx : World => run_make (P := Try.prog) wx 53 5 i0 _ Try.underlying53 hi hz0 .i64 .i64 ((ws.length : Int) * 8) ((ws.length : Int) * 8) (by omega) (by omega) (by rw [hz2]; omega) (by omega)
  rw [hz1, show ((ws.length : Int) * 8).toNat = ws.length * 8 by omega, Nat.mul_one] at hmk
  have HF := Lib.hid hfit
  have HP0 := Lib.hid hpos
  have HLE := Lib.hid hle
  have HE0 := Lib.hid hp
  clear hi hz0 hz1 hz2 hp ho hn hv h hfit hpos hle
  go_enter Try.func58, Try.ntmps58
  go_wp2_with fail
  refine (natBytes_any a c ws (some ⟨w.heap.size, 0, none⟩) (ws.length * 8) (ws.length * 8) _ (HRD.out.ext (Ext.alloc _ _)) (by omega) (made_bytes0 w _ (by omega)) (by omega) ?_).mono ?_
  · intro b off e
    have := HSEP.out b off e
    simp [Value.ownBlock]
    omega
  rw [HVV.out]
  rintro e w2 ⟨hu, ⟨hf, rfl, hrow⟩ | ⟨hf, _⟩⟩
  · have hE : Ext w w2 := hu.ext (Ext.alloc _ _) (by intro i hi; simp [Value.ownBlock] at hi; omega)
    have hrd : Rd .u8 w2 (.slice (some ⟨w.heap.size, 0, none⟩) (ws.length * 8) (ws.length * 8)) (beb (ws.length * 8) v) := ownsRow.read hrow (beb_lt _ _)
    have hle := HLE.out
    have h0 : 0 < ws.length → 0 < nby v := HP0.out
    have hN : ws.length * 8 ≤ 140737488355328 := by omega
    have hz : ws.length * 8 = 0 ∨ 0 < nby v := by omega
    generalize ws.length * 8 = N at *
    generalize hnb : nby v = m at *
    obtain ⟨i, rfl⟩ : ∃ i, N = i + m := ⟨N - m, by omega⟩
    rw [Nat.add_sub_cancel] at *
    have hd := hrd.drop i (by omega)
    rw [beb_drop, Nat.add_sub_cancel_left, Nat.zero_add] at hd
    have HD := Lib.hid hd
    have HRD2 := Lib.hid hrd
    have HE := Lib.hid hE
    clear hu hf hrow hE hrd hd hmk h0 hle
    rcases Nat.eq_zero_or_pos m with h0 | h0
    · obtain rfl := h0
      obtain rfl : i = 0 := by omega
      go_wp2_with fail
      go_ret
      exact ⟨HE.out, _, rfl, HRD2.out⟩
    · go_wp2_with fail
      go_ret
      exact ⟨HE.out, _, rfl, HD.out⟩
  · exact absurd HF.out hf

theorem implBytes_z (L : Nat) (z : Int) (x : Value) (w : World) (h : IsZ L z x w) (hL : L ≤ 17592186044416) :
    Calls Try.prog 40 #[x] w (ResR (IsR8 (beb (nby z.natAbs) z.natAbs)) w) := by
  obtain ⟨n, a, l, c, rfl⟩ := h.form
  have HZ := Lib.hid h
  clear h
  go_enter Try.func40, Try.ntmps40
  go_wp2_with fail
  refine (integer_z L z _ _ (HZ.out.ext (Ext.alloc _ _)) hL).mono ?_
  rintro e w1 ⟨he, p, rfl, hp, hI⟩
  have HE := Lib.hid ((Ext.alloc _ _).trans he)
  have HI := Lib.hid hI
  clear he hI hp
  go_wp2_with fail
  refine (intBytes_z L z _ p _ HI.out hL).mono ?_
  rintro e w2 ⟨he, y, rfl, hy⟩
  replace HE := Lib.hid (HE.out.trans he)
  have HY := Lib.hid hy
  clear he hy
  go_wp2_with fail
  go_ret
  exact ⟨HE.out, _, rfl, HY.out⟩

end Go.Proofs.Ytcdkaddgljafhaa
