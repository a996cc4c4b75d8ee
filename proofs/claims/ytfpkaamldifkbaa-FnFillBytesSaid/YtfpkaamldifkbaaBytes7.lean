/- (*Int).FillBytes, impl.FillBytes: contracts. -/
import Derived.Test.YtfpkaamldifkbaaBytes6
import Derived.Defers
import Derived.Recover
import Derived.Test.YtfpkaamldifkbaaPut
import Derived.Laws.CopyRow
set_option linter.unusedSimpArgs false
set_option linter.unusedVariables false
namespace Go.Proofs.Ytfpkaamldifkbaa
open Go.RowKit

theorem zeroCells_byte (n : Nat) : (Builtin.zeroCells #[Value.int .u8 0] n).toList = words .u8 (List.replicate n 0) := by
  apply List.ext_getElem?
  intro i
  simp [Builtin.zeroCells, words]
  by_cases h : i < n
  · simp [h, List.getElem?_replicate, Nat.mod_one]
  · simp [h, List.getElem?_replicate]

/-- 'clear(buf)' of bytes. -/
theorem run_clear_bytes (w : World) (ty : TypeId) (a : Option Addr) (n cap : Nat) (xs : List Value) (h : w.ownsRow 0 5 1 (.slice a n cap) n xs) :
    ∃ w', (Builtin.clear_ #[26] ty #[.slice a n cap]).run Try.prog w = .ok (.tuple #[]) w' ∧ Upd (fun k => (Value.slice a n cap).ownBlock = some k) w w' ∧ w'.ownsRow 0 5 1 (.slice a n cap) n (words .u8 (List.replicate n 0)) := by
  rcases Nat.eq_zero_or_pos n with rfl | hpos
  · refine ⟨w, ?_, Upd.refl _ _, ?_⟩
    · cases a <;> simp [Builtin.clear_, run_underlying Try.underlying26]
    · have : xs = [] := List.eq_nil_of_length_eq_zero (by have := h.1; omega)
      subst this
      exact h
  · obtain ⟨hl, h2⟩ := h
    rcases h2 with ⟨_, h3⟩ | ⟨g, cap', cur, h3, hb, hg, hle, hcap, hsz, htake⟩
    · omega
    · simp at h3
      obtain ⟨rfl, rfl⟩ := h3
      have hz : (zeroValue 5).run Try.prog w = .ok (.int .u8 0) w := by kernel_rfl
      obtain ⟨m, rfl⟩ : ∃ m, n = m + 1 := ⟨n - 1, by omega⟩
      have hsz' : cur.size = cap := by omega
      have hst := run_storeCells_at (P := Try.prog) g 0 5 (words .u8 (List.replicate (m + 1) 0)) 0 cur w hg (by rw [words_len]; simp; omega) (words_one _ _)
      rw [Nat.zero_add, List.take_zero, List.nil_append] at hst
      refine ⟨w.setRow g (put cur 0 (words .u8 (List.replicate (m + 1) 0))), ?_, (updSetRow _ _ _).mono (fun k _ hk => by subst hk; rfl), ?_⟩
      · simp [Builtin.clear_, run_underlying Try.underlying26, hz, Value.cells, zeroCells_byte, hst, put]
      · refine ⟨by simp [words], .inr ⟨g, cap, _, rfl, Nat.zero_le _, setRow_heap _ _ _ _ _ _ hg, hle, hcap, ?_, ?_⟩⟩
        · rw [put_size _ _ _ (by rw [words_len]; simp; omega)]; exact hsz
        · apply List.ext_getElem?
          intro j
          by_cases hj : j < m + 1
          · rw [List.getElem?_take, if_pos (by omega)]
            have := put_in cur 0 (words .u8 (List.replicate (m + 1) 0)) j (by omega) (by rw [words_len]; simpa using hj)
            rw [Nat.zero_add] at this
            simpa using this
          · rw [List.getElem?_take, if_neg (by omega), List.getElem?_eq_none (by rw [words_len]; simp; omega)]

/-- What (*Int).FillBytes leaves. -/
def FbR (v0 : Value) (v n : Nat) (w : World) (e : Ending) (w' : World) : Prop :=
  Upd (fun k => v0.ownBlock = some k) w w' ∧
    ((v < 256 ^ n ∧ e = .returned v0 ∧ Rd .u8 w' v0 (beb n v)) ∨
      (¬ v < 256 ^ n ∧ ∃ u x, e = .panicked [{ v := .iface u x, recovered := false }]))

theorem intFillBytes_z (L : Nat) (z : Int) (base p : Nat) (a : Option Addr) (n cap : Nat) (bs : List Nat) (w : World) (h : IntZ L z w base p) (hL : L ≤ 17592186044416) (ho : Own .u8 w 0 5 (.slice a n cap) bs) (hn : bs.length = n) (hl : n ≤ 140737488355328) (hsep : ∀ k, (Value.slice a n cap).ownBlock = some k → k ≠ p) :
    Calls Try.prog 34 #[.pointer (some ⟨p, 0, none⟩), .slice a n cap] w (FbR (.slice a n cap) z.natAbs n w) := by
  subst hn
  obtain ⟨a', c, ws, hp, hw, hnn, hv, hwl⟩ := h.low
  obtain ⟨w0, hrun, hu0, hrow⟩ := run_clear_bytes w 0 a bs.length cap _ ho.2
  have hp0 := hu0.heap hp (fun e => hsep p e rfl)
  have c0 := blk_cell hp0 0
  have c1 := blk_cell hp0 1
  simp at c0 c1
  rw [← hv]
  have hne : ∀ b off, a' = some ⟨b, off, none⟩ → (Value.slice a bs.length cap).ownBlock ≠ some b := by
    intro b off e
    subst e
    rcases hw.2.2 with ⟨h3, _⟩ | ⟨g, cap', cur, h3, hb, hg, _⟩
    · simp at h3
    · simp at h3
      obtain ⟨⟨rfl, _⟩, _⟩ := h3
      rcases ho.2.2 with ⟨h4, _⟩ | ⟨g', cap'', cur', h4, hb', hg', _⟩
      · simp at h4
        obtain ⟨rfl, _⟩ := h4
        simp [Value.ownBlock]
      · simp at h4
        obtain ⟨rfl, _⟩ := h4
        intro e
        simp [Value.ownBlock] at e
        subst e
        rw [hg] at hg'
        simp at hg'
  have hrd : Rd .u64 w0 (.slice a' ws.length c) ws := by
    obtain ⟨h1, a2, c2, q1, q2, q3, q4, q5⟩ := hw.read
    simp at q1
    obtain ⟨rfl, rfl⟩ := q1
    refine ⟨h1, _, _, rfl, q2, q3, q4, fun i hi => ?_⟩
    obtain ⟨b, off, rfl, hc⟩ := q5 i hi
    exact ⟨b, off, rfl, hu0.cell hc (hne b off rfl)⟩
  have HNE := Lib.hid hne
  have HU := Lib.hid hu0
  have HROW := Lib.hid hrow
  have HRD := Lib.hid hrd
  clear hne hu0 hrow hrd h hw hnn hv ho hp hp0 hsep
  go_enter Try.func34, Try.ntmps34
  go_wp2_with fail
  refine (natBytes_any a' c ws a bs.length cap _ HRD.out (by omega) HROW.out hl HNE.out).mono ?_
  rintro e w2 ⟨hu, ⟨hf, rfl, hr⟩ | ⟨hf, u, x, rfl⟩⟩
  · have HR := Lib.hid (ownsRow.read hr (beb_lt _ _))
    have HF := Lib.hid hf
    have HU2 := Lib.hid (HU.out.same hu)
    clear hu hf hr hrun
    go_wp2_with fail
    go_ret
    exact ⟨HU2.out, .inl ⟨HF.out, rfl, HR.out⟩⟩
  · have HF := Lib.hid hf
    have HU2 := Lib.hid (HU.out.same hu)
    clear hu hf hrun
    go_wp2_with fail
    exact ⟨rfl, HU2.out, .inr ⟨HF.out, _, _, rfl⟩⟩

end Go.Proofs.Ytfpkaamldifkbaa
