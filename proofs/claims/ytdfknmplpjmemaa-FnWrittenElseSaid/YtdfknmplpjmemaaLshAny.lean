/- nat.lsh for every shift, (*Int).Lsh: contracts. -/
import Derived.Test.YtdfknmplpjmemaaNatLsh
import Derived.Test.YtdfknmplpjmemaaTwo
import Derived.Test.YtdfknmplpjmemaaCmp
set_option linter.unusedSimpArgs false
set_option linter.unusedVariables false
namespace Go.Proofs.Ytdfknmplpjmemaa
open Go.RowKit

/-- Two rows share nothing. -/
def Apart (v x : Value) : Prop := ∀ k, v.ownBlock = some k → x.ownBlock ≠ some k

theorem own_cases {w : World} {v : Value} {vs : List Nat} (h : Own .u64 w 0 83 v vs) : (v = .slice none 0 0 ∧ vs = []) ∨ ∃ g cap cur, v = .slice (some ⟨g, 0, none⟩) vs.length cap ∧ vs.length ≤ cap ∧ cap ≤ 9223372036854775807 ∧ w.heap[g]? = some (.cells cur 83 (0, 0)) := by
  rcases h.2.2 with ⟨rfl, h0⟩ | ⟨g, cap, cur, rfl, hb, hg, hle, hcap, _⟩
  · exact .inl ⟨rfl, List.eq_nil_of_length_eq_zero h0⟩
  · exact .inr ⟨g, cap, cur, rfl, hle, by simpa [maxLen] using hcap, hg⟩

theorem same_apart (v x : Value) (vs xs : List Nat) (w : World) (hv : Own .u64 w 0 83 v vs) (hx : Own .u64 w 0 83 x xs) (hs : Apart v x) : Calls Try.prog 93 #[v, x] w (BoolQ false w) := by
  by_cases hl : vs.length = xs.length
  · by_cases h0 : vs.length = 0
    · obtain ⟨a, c, rfl⟩ := hv.form
      obtain ⟨b, d, rfl⟩ := hx.form
      rw [h0, show xs.length = 0 by omega]
      exact same_zero a b c d w
    · rcases own_cases hv with ⟨_, rfl⟩ | ⟨g, cap, cur, rfl, h1, h2, h3⟩
      · simp at h0
      · rcases own_cases hx with ⟨_, rfl⟩ | ⟨h, cap', cur', rfl, k1, k2, k3⟩
        · rw [List.length_nil] at hl; omega
        · rw [← hl]
          exact same_other g h vs.length cap cap' w (fun e => hs g rfl (by rw [e]; rfl)) (by omega) (by omega) _ _ _ _ h3 k3
  · obtain ⟨a, c, rfl⟩ := hv.form
    obtain ⟨b, d, rfl⟩ := hx.form
    have h1 := hv.cap
    have h2 := hx.cap
    exact same_len a b _ _ c d w hl (by omega) (by omega)

theorem alias_apart (v x : Value) (vs xs : List Nat) (w : World) (hv : Own .u64 w 0 83 v vs) (hx : Own .u64 w 0 83 x xs) (hs : Apart v x) : Calls Try.prog 94 #[v, x] w (BoolQ false w) := by
  rcases own_cases hv with ⟨rfl, _⟩ | ⟨g, cap, cur, rfl, h1, h2, h3⟩
  · obtain ⟨b, d, rfl⟩ := hx.form
    exact alias_none1 _ _ _ _ _ w
  · rcases Nat.eq_zero_or_pos cap with rfl | hpos
    · obtain ⟨b, d, rfl⟩ := hx.form
      exact alias_none1 _ _ _ _ _ w
    · rcases own_cases hx with ⟨rfl, _⟩ | ⟨h, cap', cur', rfl, k1, k2, k3⟩
      · exact alias_none2 _ _ _ _ _ w hpos h2
      · rcases Nat.eq_zero_or_pos cap' with rfl | hpos'
        · exact alias_none2 _ _ _ _ _ w hpos h2
        · exact alias_both g h _ _ cap cap' false w hpos h2 hpos' k2 (fun k => eqWordOther (fun e => hs g rfl (by rw [e]; rfl)) h3 k3)

set_option maxHeartbeats 1000000 in
theorem natLsh_0 (v0 x : Value) (vs xs : List Nat) (w : World) (hv : Own .u64 w 0 83 v0 vs) (hx : Own .u64 w 0 83 x xs) (hl : xs.length ≤ 17592186044416) (hs : Apart v0 x) :
    Calls Try.prog 79 #[v0, x, .int .u64 0] w (NatR v0 xs w) := by
  have HV := Lib.hid hv
  have HX := Lib.hid hx
  have HS := Lib.hid hs
  clear hv hx hs
  go_enter Try.func79, Try.ntmps79
  go_wp2_with fail
  refine (same_apart v0 x vs xs _ HV.out HX.out HS.out).mono ?_
  rintro e w1 ⟨rfl, n1, hw1⟩
  have hE1 : Ext w w1 := by rw [hw1]; exact Ext.drewN w n1
  have HE1 := Lib.hid hE1
  clear hw1 hE1
  go_wp2_with fail
  refine (alias_apart v0 x vs xs _ (HV.out.ext HE1.out) (HX.out.ext HE1.out) HS.out).mono ?_
  rintro e w2 ⟨rfl, n2, hw2⟩
  have hE2 : Ext w w2 := HE1.out.trans (by rw [hw2]; exact Ext.drewN w1 n2)
  have HE2 := Lib.hid hE2
  clear hw2 hE2
  go_wp2_with fail
  refine (natSet_any _ vs _ xs _ (HV.out.ext HE2.out) (HX.out.ext HE2.out).read hl).mono ?_
  rintro e w3 ⟨v', rfl, g1, g2, g3⟩
  have hsz := HE2.out.size
  have hU : Upd (fun k => v0.ownBlock = some k) w w3 := (HE2.out.upd).same g2
  have hor : v'.ownBlock = v0.ownBlock ∨ ∀ k, v'.ownBlock = some k → w.heap.size ≤ k := g3.imp id (fun h k hk => Nat.le_trans hsz (h k hk))
  have G1 := Lib.hid g1
  have G2 := Lib.hid hU
  have G3 := Lib.hid hor
  clear g1 g2 g3 hU hor
  go_wp2_with fail
  go_ret
  exact ⟨_, rfl, G1.out, G2.out, G3.out⟩

set_option maxHeartbeats 1000000 in
theorem natLsh_self (x : Value) (xs : List Nat) (w : World) (hx : Own .u64 w 0 83 x xs) (hl : xs.length ≤ 17592186044416) :
    Calls Try.prog 79 #[x, x, .int .u64 0] w (NatR x xs w) := by
  rcases own_cases hx with ⟨rfl, rfl⟩ | ⟨g, cap, cur, rfl, h1, h2, h3⟩
  · exact natLsh_0 _ _ [] [] w hx hx (by simp) (fun k hk => by simp [Value.ownBlock] at hk)
  · by_cases hpos : 0 < xs.length
    · have HX := Lib.hid hx
      clear hx h3
      go_enter Try.func79, Try.ntmps79
      go_wp2_with fail
      refine (same_true g _ cap _ hpos (by omega)).mono ?_
      rintro e w1 ⟨rfl, n1, hw1⟩
      have hE1 : Ext w w1 := by rw [hw1]; exact Ext.drewN w n1
      have HE1 := Lib.hid hE1
      clear hw1 hE1
      go_wp2_with fail
      go_ret
      exact ⟨_, rfl, HX.out.ext HE1.out, HE1.out.upd, .inl rfl⟩
    · obtain rfl : xs = [] := List.eq_nil_of_length_eq_zero (by omega)
      rcases Nat.eq_zero_or_pos cap with rfl | hcp
      · have HX := Lib.hid hx
        clear hx h3
        simp only [List.length_nil] at *
        go_enter Try.func79, Try.ntmps79
        go_wp2_with fail
        refine (same_zero _ _ _ _ _).mono ?_
        rintro e w1 ⟨rfl, n1, hw1⟩
        have hE1 : Ext w w1 := by rw [hw1]; exact Ext.drewN w n1
        have HE1 := Lib.hid hE1
        clear hw1 hE1
        go_wp2_with fail
        refine (alias_none1 _ _ _ _ _ _).mono ?_
        rintro e w2 ⟨rfl, n2, hw2⟩
        have hE2 : Ext w w2 := HE1.out.trans (by rw [hw2]; exact Ext.drewN w1 n2)
        have HE2 := Lib.hid hE2
        clear hw2 hE2
        go_wp2_with fail
        refine (natSet_any _ [] _ [] _ (HX.out.ext HE2.out) (HX.out.ext HE2.out).read (by simp)).mono ?_
        rintro e w3 ⟨v', rfl, g1, g2, g3⟩
        have hsz := HE2.out.size
        have hU := (HE2.out.upd).same g2
        have G1 := Lib.hid g1
        have G2 := Lib.hid hU
        have G3 := Lib.hid (g3.imp id (fun h k hk => Nat.le_trans hsz (h k hk)))
        clear g1 g2 g3 hU
        go_wp2_with fail
        go_ret
        exact ⟨_, rfl, G1.out, G2.out, G3.out⟩
      · have HX := Lib.hid hx
        clear hx h3
        simp only [List.length_nil] at *
        go_enter Try.func79, Try.ntmps79
        go_wp2_with fail
        refine (same_zero _ _ _ _ _).mono ?_
        rintro e w1 ⟨rfl, n1, hw1⟩
        have hE1 : Ext w w1 := by rw [hw1]; exact Ext.drewN w n1
        have HE1 := Lib.hid hE1
        clear hw1 hE1
        go_wp2_with fail
        refine (alias_both g g _ _ cap cap true _ hcp h2 hcp h2 (fun k => eqWordSame _ _)).mono ?_
        rintro e w2 ⟨rfl, n2, hw2⟩
        have hE2 : Ext w w2 := HE1.out.trans (by rw [hw2]; exact Ext.drewN w1 n2)
        have HE2 := Lib.hid hE2
        clear hw2 hE2
        go_wp2_with fail
        go_ret
        exact ⟨_, rfl, HX.out.ext HE2.out, HE2.out.upd, .inl rfl⟩

theorem natLsh_any (v0 x : Value) (vs xs : List Nat) (s : Nat) (w : World) (hv : Own .u64 w 0 83 v0 vs) (hx : Own .u64 w 0 83 x xs) (hnx : norm xs = xs) (hs2 : s < 18446744073709551616) (L : Nat) (hL : L + s / 64 + 1 ≤ 17592186044416) (hl : xs.length ≤ L) (hsep : v0 = x ∨ Apart v0 x) :
    Calls Try.prog 79 #[v0, x, .int .u64 (s : Nat)] w (NatVR v0 (val xs * 2 ^ s) (L + s / 64 + 1) w) := by
  rcases Nat.eq_zero_or_pos s with rfl | hs
  · have key : Calls Try.prog 79 #[v0, x, .int .u64 0] w (NatR v0 xs w) := by
      rcases hsep with rfl | h
      · exact natLsh_self v0 xs w hx (by omega)
      · exact natLsh_0 v0 x vs xs w hv hx (by omega) h
    exact key.mono fun e w' h => ⟨xs, hnx, by simp, by omega, h⟩
  · by_cases h0 : xs.length = 0
    · obtain rfl : xs = [] := List.eq_nil_of_length_eq_zero h0
      exact (natLsh_m0 v0 x vs s w hv hx hs).mono fun e w' ⟨ws, h1, h2, h3, h4⟩ => ⟨ws, h1, by rw [h2]; simp [val], by omega, h4⟩
    · by_cases hr : s % 64 = 0
      · exact (natLsh_r0 v0 x vs xs s w hv hx (by omega) hs hs2 (by omega) (by omega)).mono fun e w' ⟨ws, h1, h2, h3, h4⟩ => ⟨ws, h1, h2, by omega, h4⟩
      · exact (natLsh_rp v0 x vs xs s w hv hx (by omega) hs hs2 (by omega) (by omega)).mono fun e w' ⟨ws, h1, h2, h3, h4⟩ => ⟨ws, h1, h2, by omega, h4⟩

end Go.Proofs.Ytdfknmplpjmemaa
