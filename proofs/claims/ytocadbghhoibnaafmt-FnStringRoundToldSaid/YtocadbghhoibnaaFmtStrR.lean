/- The text of a number is short enough: plain laws. -/
import Derived.Test.YtocadbghhoibnaaFmtSpecY
set_option linter.unusedSimpArgs false
set_option linter.unusedVariables false
namespace Go.Proofs.YtocadbghhoibnaaFmt
open Go.RowKit

theorem scRun_digs (u : Bool) (b : Nat) : ∀ (l : List Nat) (st : Sc), (∀ c ∈ l, c ≠ 95 ∧ dgv c b < b) → (scRun u b st l).1.v = dvb b st.v l
  | [], st, _ => rfl
  | c :: cs, st, h => by
    have hc := h c (by simp)
    rw [sc_dig (fun q => hc.1 q.1) hc.2, scRun_digs u b cs _ (fun x hx => h x (List.mem_cons_of_mem _ hx)), dvb]

theorem dvb_drop (b : Nat) (l : List Nat) (q : Nat) : dvb b 0 (l.drop q) ≤ dvb b 0 l := by
  conv => rhs; rw [← List.take_append_drop q l]
  rw [dvb_app, dvb_lin b (l.drop q) (dvb b 0 (l.take q))]
  omega

theorem pow_small2 {b k V m : Nat} (hb : 2 ≤ b) (h : b ^ k ≤ V) (hV : V < 2 ^ m) : k < m := by
  rcases Nat.lt_or_ge k m with h1 | h1
  · exact h1
  · exfalso
    have h2 : 2 ^ k ≤ b ^ k := Nat.pow_le_pow_left hb k
    have h3 : 2 ^ m ≤ 2 ^ k := Nat.pow_le_pow_right (by decide) h1
    omega

theorem text_fit {V b L : Nat} {t : ByteArray} (h : TextP V b t) (hV : V < 18446744073709551616 ^ L) (hL : 1 ≤ L) (hb : 2 ≤ b) : t.size ≤ 64 * L ∧ FitS t b 0 L := by
  obtain ⟨h1, h2, h3, h4⟩ := h
  rw [pow64] at hV
  have hsz : t.size ≤ 64 * L := by
    rcases Nat.eq_zero_or_pos V with h0 | h0
    · have := h3 h0; omega
    · have := pow_small2 hb (h4 h0) hV; omega
  refine ⟨hsz, fun b' g1 g2 g3 => ?_⟩
  obtain rfl : b' = b := g2 (by omega)
  refine ⟨fun _ => hsz, fun e => ?_, fun e => ?_, fun e1 e2 e3 u st q _ hv => ?_⟩
  · subst e
    rcases Nat.eq_zero_or_pos V with h0 | h0
    · have := h3 h0; omega
    · have h5 := h4 h0
      rw [show (4 : Nat) = 2 ^ 2 from rfl, ← Nat.pow_mul] at h5
      have := pow_small2 (Nat.le_refl 2) h5 hV
      omega
  · subst e
    rcases Nat.eq_zero_or_pos V with h0 | h0
    · have := h3 h0; omega
    · have h5 := h4 h0
      rw [show (16 : Nat) = 2 ^ 4 from rfl, ← Nat.pow_mul] at h5
      have := pow_small2 (Nat.le_refl 2) h5 hV
      omega
  · rw [pow64]
    refine Nat.lt_of_le_of_lt ?_ hV
    have e : bts t q = (bts t 0).drop q := by rw [bts_drop, Nat.zero_add]
    rw [e, scRun_digs u b' _ st (fun c hc => ⟨(h2.2 c (List.mem_of_mem_drop hc)).1, (h2.2 c (List.mem_of_mem_drop hc)).2.2.2⟩), hv]
    have h6 := dvb_drop b' (bts t 0) q
    have h7 := h2.1
    omega

end Go.Proofs.YtocadbghhoibnaaFmt
