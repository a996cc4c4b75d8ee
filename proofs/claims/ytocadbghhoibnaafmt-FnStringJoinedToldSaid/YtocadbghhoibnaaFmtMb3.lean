/- Base texts of the seat, merged: LshAny, IntLsh, ImplLsh, BitLen, Cmp3, Law5, LshZ. -/
import Derived.Test.YtocadbghhoibnaaFmtMb2
import Derived.Test.YtocadbghhoibnaaFmtMa5
import Derived.Test.YtocadbghhoibnaaFmtMb1
import Derived.Test.YtocadbghhoibnaaFmtMa6
import Derived.Shelf.Small.Bits
import Derived.Laws.Bits64b
set_option linter.unusedSimpArgs false
set_option linter.unusedVariables false

/- nat.lsh for every shift, (*Int).Lsh: contracts. -/
namespace Go.Proofs.YtocadbghhoibnaaFmt
open Go.RowKit

/-- Two rows share nothing. -/
def Apart (v x : Value) : Prop := ∀ k, v.ownBlock = some k → x.ownBlock ≠ some k

theorem own_cases {w : World} {v : Value} {vs : List Nat} (h : Own .u64 w 0 93 v vs) : (v = .slice none 0 0 ∧ vs = []) ∨ ∃ g cap cur, v = .slice (some ⟨g, 0, none⟩) vs.length cap ∧ vs.length ≤ cap ∧ cap ≤ 9223372036854775807 ∧ w.heap[g]? = some (.cells cur 93 (0, 0)) := by
  rcases h.2.2 with ⟨rfl, h0⟩ | ⟨g, cap, cur, rfl, hb, hg, hle, hcap, _⟩
  · exact .inl ⟨rfl, List.eq_nil_of_length_eq_zero h0⟩
  · exact .inr ⟨g, cap, cur, rfl, hle, by simpa [maxLen] using hcap, hg⟩

theorem same_apart (v x : Value) (vs xs : List Nat) (w : World) (hv : Own .u64 w 0 93 v vs) (hx : Own .u64 w 0 93 x xs) (hs : Apart v x) : Calls Tryf.prog 104 #[v, x] w (BoolQ false w) := by
  by_cases hl : vs.length = xs.length
  · by_cases h0 : vs.length = 0
    · obtain ⟨a, c, rfl⟩ := hv.form
      obtain ⟨b, d, rfl⟩ := hx.form
      rw [h0, show xs.length = 0 by omega]
      exact same_zero a b c d w
    · rcases own_cases hv with ⟨_, rfl⟩ | ⟨g, cap, cur, rfl, h1, h2, h3⟩
      · simp at h0
      · rcases own_cases hx with ⟨_, rfl⟩ | ⟨h, cap', cur', rfl, k1, k2, k3⟩
        · rw [List.length_nil] at hl; omega
        · rw [← hl]
          exact same_other g h vs.length cap cap' w (fun e => hs g rfl (by rw [e]; rfl)) (by omega) (by omega) _ _ _ _ h3 k3
  · obtain ⟨a, c, rfl⟩ := hv.form
    obtain ⟨b, d, rfl⟩ := hx.form
    have h1 := hv.cap
    have h2 := hx.cap
    exact same_len a b _ _ c d w hl (by omega) (by omega)

theorem alias_apart (v x : Value) (vs xs : List Nat) (w : World) (hv : Own .u64 w 0 93 v vs) (hx : Own .u64 w 0 93 x xs) (hs : Apart v x) : Calls Tryf.prog 105 #[v, x] w (BoolQ false w) := by
  rcases own_cases hv with ⟨rfl, _⟩ | ⟨g, cap, cur, rfl, h1, h2, h3⟩
  · obtain ⟨b, d, rfl⟩ := hx.form
    exact alias_none1 _ _ _ _ _ w
  · rcases Nat.eq_zero_or_pos cap with rfl | hpos
    · obtain ⟨b, d, rfl⟩ := hx.form
      exact alias_none1 _ _ _ _ _ w
    · rcases own_cases hx with ⟨rfl, _⟩ | ⟨h, cap', cur', rfl, k1, k2, k3⟩
      · exact alias_none2 _ _ _ _ _ w hpos h2
      · rcases Nat.eq_zero_or_pos cap' with rfl | hpos'
        · exact alias_none2 _ _ _ _ _ w hpos h2
        · exact alias_both g h _ _ cap cap' false w hpos h2 hpos' k2 (fun k => eqWordOther (fun e => hs g rfl (by rw [e]; rfl)) h3 k3)

set_option maxHeartbeats 1000000 in
theorem natLsh_0 (v0 x : Value) (vs xs : List Nat) (w : World) (hv : Own .u64 w 0 93 v0 vs) (hx : Own .u64 w 0 93 x xs) (hl : xs.length ≤ 17592186044416) (hs : Apart v0 x) :
    Calls Tryf.prog 92 #[v0, x, .int .u64 0] w (NatR v0 xs w) := by
  have HV := Lib.hid hv
  have HX := Lib.hid hx
  have HS := Lib.hid hs
  clear hv hx hs
  go_enter Tryf.func92, Tryf.ntmps92
  go_wp2_with fail
  refine (same_apart v0 x vs xs _ HV.out HX.out HS.out).mono ?_
  rintro e w1 ⟨rfl, n1, hw1⟩
  have hE1 : Ext w w1 := by rw [hw1]; exact Ext.drewN w n1
  have HE1 := Lib.hid hE1
  clear hw1 hE1
  go_wp2_with fail
  refine (alias_apart v0 x vs xs _ (HV.out.ext HE1.out) (HX.out.ext HE1.out) HS.out).mono ?_
  rintro e w2 ⟨rfl, n2, hw2⟩
  have hE2 : Ext w w2 := HE1.out.trans (by rw [hw2]; exact Ext.drewN w1 n2)
  have HE2 := Lib.hid hE2
  clear hw2 hE2
  go_wp2_with fail
  refine (natSet_any _ vs _ xs _ (HV.out.ext HE2.out) (HX.out.ext HE2.out).read hl).mono ?_
  rintro e w3 ⟨v', rfl, g1, g2, g3⟩
  have hsz := HE2.out.size
  have hU : Upd (fun k => v0.ownBlock = some k) w w3 := (HE2.out.upd).same g2
  have hor : v'.ownBlock = v0.ownBlock ∨ ∀ k, v'.ownBlock = some k → w.heap.size ≤ k := g3.imp id (fun h k hk => Nat.le_trans hsz (h k hk))
  have G1 := Lib.hid g1
  have G2 := Lib.hid hU
  have G3 := Lib.hid hor
  clear g1 g2 g3 hU hor
  go_wp2_with fail
  go_ret
  exact ⟨_, rfl, G1.out, G2.out, G3.out⟩

set_option maxHeartbeats 1000000 in
theorem natLsh_self (x : Value) (xs : List Nat) (w : World) (hx : Own .u64 w 0 93 x xs) (hl : xs.length ≤ 17592186044416) :
    Calls Tryf.prog 92 #[x, x, .int .u64 0] w (NatR x xs w) := by
  rcases own_cases hx with ⟨rfl, rfl⟩ | ⟨g, cap, cur, rfl, h1, h2, h3⟩
  · exact natLsh_0 _ _ [] [] w hx hx (by simp) (fun k hk => by simp [Value.ownBlock] at hk)
  · by_cases hpos : 0 < xs.length
    · have HX := Lib.hid hx
      clear hx h3
      go_enter Tryf.func92, Tryf.ntmps92
      go_wp2_with fail
      refine (same_true g _ cap _ hpos (by omega)).mono ?_
      rintro e w1 ⟨rfl, n1, hw1⟩
      have hE1 : Ext w w1 := by rw [hw1]; exact Ext.drewN w n1
      have HE1 := Lib.hid hE1
      clear hw1 hE1
      go_wp2_with fail
      go_ret
      exact ⟨_, rfl, HX.out.ext HE1.out, HE1.out.upd, .inl rfl⟩
    · obtain rfl : xs = [] := List.eq_nil_of_length_eq_zero (by omega)
      rcases Nat.eq_zero_or_pos cap with rfl | hcp
      · have HX := Lib.hid hx
        clear hx h3
        simp only [List.length_nil] at *
        go_enter Tryf.func92, Tryf.ntmps92
        go_wp2_with fail
        refine (same_zero _ _ _ _ _).mono ?_
        rintro e w1 ⟨rfl, n1, hw1⟩
        have hE1 : Ext w w1 := by rw [hw1]; exact Ext.drewN w n1
        have HE1 := Lib.hid hE1
        clear hw1 hE1
        go_wp2_with fail
        refine (alias_none1 _ _ _ _ _ _).mono ?_
        rintro e w2 ⟨rfl, n2, hw2⟩
        have hE2 : Ext w w2 := HE1.out.trans (by rw [hw2]; exact Ext.drewN w1 n2)
        have HE2 := Lib.hid hE2
        clear hw2 hE2
        go_wp2_with fail
        refine (natSet_any _ [] _ [] _ (HX.out.ext HE2.out) (HX.out.ext HE2.out).read (by simp)).mono ?_
        rintro e w3 ⟨v', rfl, g1, g2, g3⟩
        have hsz := HE2.out.size
        have hU := (HE2.out.upd).same g2
        have G1 := Lib.hid g1
        have G2 := Lib.hid hU
        have G3 := Lib.hid (g3.imp id (fun h k hk => Nat.le_trans hsz (h k hk)))
        clear g1 g2 g3 hU
        go_wp2_with fail
        go_ret
        exact ⟨_, rfl, G1.out, G2.out, G3.out⟩
      · have HX := Lib.hid hx
        clear hx h3
        simp only [List.length_nil] at *
        go_enter Tryf.func92, Tryf.ntmps92
        go_wp2_with fail
        refine (same_zero _ _ _ _ _).mono ?_
        rintro e w1 ⟨rfl, n1, hw1⟩
        have hE1 : Ext w w1 := by rw [hw1]; exact Ext.drewN w n1
        have HE1 := Lib.hid hE1
        clear hw1 hE1
        go_wp2_with fail
        refine (alias_both g g _ _ cap cap true _ hcp h2 hcp h2 (fun k => eqWordSame _ _)).mono ?_
        rintro e w2 ⟨rfl, n2, hw2⟩
        have hE2 : Ext w w2 := HE1.out.trans (by rw [hw2]; exact Ext.drewN w1 n2)
        have HE2 := Lib.hid hE2
        clear hw2 hE2
        go_wp2_with fail
        go_ret
        exact ⟨_, rfl, HX.out.ext HE2.out, HE2.out.upd, .inl rfl⟩

theorem natLsh_any (v0 x : Value) (vs xs : List Nat) (s : Nat) (w : World) (hv : Own .u64 w 0 93 v0 vs) (hx : Own .u64 w 0 93 x xs) (hnx : norm xs = xs) (hs2 : s < 18446744073709551616) (L : Nat) (hL : L + s / 64 + 1 ≤ 17592186044416) (hl : xs.length ≤ L) (hsep : v0 = x ∨ Apart v0 x) :
    Calls Tryf.prog 92 #[v0, x, .int .u64 (s : Nat)] w (NatVR v0 (val xs * 2 ^ s) (L + s / 64 + 1) w) := by
  rcases Nat.eq_zero_or_pos s with rfl | hs
  · have key : Calls Tryf.prog 92 #[v0, x, .int .u64 0] w (NatR v0 xs w) := by
      rcases hsep with rfl | h
      · exact natLsh_self v0 xs w hx (by omega)
      · exact natLsh_0 v0 x vs xs w hv hx (by omega) h
    exact key.mono fun e w' h => ⟨xs, hnx, by simp, by omega, h⟩
  · by_cases h0 : xs.length = 0
    · obtain rfl : xs = [] := List.eq_nil_of_length_eq_zero h0
      exact (natLsh_m0 v0 x vs s w hv hx hs).mono fun e w' ⟨ws, h1, h2, h3, h4⟩ => ⟨ws, h1, by rw [h2]; simp [val], by omega, h4⟩
    · by_cases hr : s % 64 = 0
      · exact (natLsh_r0 v0 x vs xs s w hv hx (by omega) hs hs2 (by omega) (by omega)).mono fun e w' ⟨ws, h1, h2, h3, h4⟩ => ⟨ws, h1, h2, by omega, h4⟩
      · exact (natLsh_rp v0 x vs xs s w hv hx (by omega) hs hs2 (by omega) (by omega)).mono fun e w' ⟨ws, h1, h2, h3, h4⟩ => ⟨ws, h1, h2, by omega, h4⟩

end Go.Proofs.YtocadbghhoibnaaFmt

/- (*Int).Lsh, impl.Lsh by values: contracts. -/
namespace Go.Proofs.YtocadbghhoibnaaFmt
open Go.RowKit

/-- What a shift leaves: the Int at p has the words of value t and the sign n. -/
def LshR (p : Nat) (v0 : Value) (t L : Nat) (n : Bool) (w : World) (e : Ending) (w' : World) : Prop :=
  e = .returned (.pointer (some ⟨p, 0, none⟩)) ∧ ∃ ws, IntAt w' 0 p n ws ∧ norm ws = ws ∧ val ws = t ∧ ws.length ≤ L ∧ Upd (fun k => k = p ∨ v0.ownBlock = some k) w w'

set_option maxRecDepth 100000 in
set_option maxHeartbeats 2000000 in
theorem intLsh_any (p q : Nat) (n0 nx : Bool) (v0 sx : Value) (vs xs : List Nat) (s L : Nat) (w : World) (hp : w.heap[p]? = some (.cells #[.bool n0, v0] 82 (0, 0))) (hq : w.heap[q]? = some (.cells #[.bool nx, sx] 82 (0, 0))) (hv : Own .u64 w 0 93 v0 vs) (hx : Own .u64 w 0 93 sx xs) (hnx : norm xs = xs) (hs : s < 18446744073709551616) (hL : L + s / 64 + 1 ≤ 17592186044416) (hlx : xs.length ≤ L) (hsep : v0 = sx ∨ Apart v0 sx) :
    Calls Tryf.prog 76 #[.pointer (some ⟨p, 0, none⟩), .pointer (some ⟨q, 0, none⟩), .int .u64 (s : Nat)] w (LshR p v0 (val xs * 2 ^ s) (L + s / 64 + 1) nx w) := by
  have hnp := hv.not hp (by decide)
  have hnq := hv.not hq (by decide)
  obtain ⟨a0, c0, rfl⟩ := hv.form
  obtain ⟨ax, cx, rfl⟩ := hx.form
  generalize hv0 : Value.slice a0 vs.length c0 = v0 at *
  generalize hsx : Value.slice ax xs.length cx = sx at *
  have HP := Lib.hid hp
  have HQ := Lib.hid hq
  have HV := Lib.hid hv
  have HX := Lib.hid hx
  have HNX := Lib.hid hnx
  have HNP := Lib.hid hnp
  have HNQ := Lib.hid hnq
  have HSEP := Lib.hid hsep
  have HFX := Lib.hid hsx
  have HFV := Lib.hid hv0
  clear hp hq hv hx hnx hnp hnq hsep hsx hv0
  go_enter Tryf.func76, Tryf.ntmps76
  go_wp2_with fail
  refine wp_region_H preExt (preUpd (fun k => v0.ownBlock = some k)) (fun _ _ h => h.upd) 10 mixed [Is (.pointer (some ⟨p, 0, none⟩)), Is (.pointer (some ⟨p, 0, none⟩)), Is (.pointer (some ⟨p, 0, none⟩)), Is (.pointer (some ⟨p, 1, none⟩)), Is v0, Is (.pointer (some ⟨q, 0, none⟩)), Is (.pointer (some ⟨q, 0, none⟩)), Is (.pointer (some ⟨q, 1, none⟩)), Is sx, Is (.int .u64 (s : Nat)), NatD v0 (val xs * 2 ^ s) (L + s / 64 + 1) w, Is (.pointer (some ⟨p, 0, none⟩)), Is (.pointer (some ⟨p, 1, none⟩))] (by kernel_rfl) ?mono ?monoU rfl ?steps ?last
  case mono =>
    simp only [List.forall_mem_cons, List.not_mem_nil, false_implies, implies_true, and_true]
    refine ⟨?_, ?_, ?_, ?_, ?_, ?_, ?_, ?_, ?_, ?_, ?_, ?_, ?_⟩
    all_goals first | exact fun _ _ _ _ q => q | exact fun _ _ _ he q => q.ext he
  case monoU =>
    intro j hj
    match j, hj with
    | 0, _ => exact fun _ _ _ _ q => q
    | 1, _ => exact fun _ _ _ _ q => q
    | 2, _ => exact fun _ _ _ _ q => q
    | 3, _ => exact fun _ _ _ _ q => q
    | 4, _ => exact fun _ _ _ _ q => q
    | 5, _ => exact fun _ _ _ _ q => q
    | 6, _ => exact fun _ _ _ _ q => q
    | 7, _ => exact fun _ _ _ _ q => q
    | 8, _ => exact fun _ _ _ _ q => q
    | 9, _ => exact fun _ _ _ _ q => q
    | 10, h => exact absurd rfl h
    | 11, _ => exact fun _ _ _ _ q => q
    | 12, _ => exact fun _ _ _ _ q => q
    | j + 13, _ => exact fun _ _ _ _ q => trivial
  case steps =>
    refine ⟨?_, ?_, ?_, ?_, ?_, ?_, ?_, ?_, ?_, ?_, ?_, ?_, ?_, trivial⟩
    all_goals
      intro u0 u1 u2 u3 u4 u5 u6 u7 u8 u9 u10 u11 u12 u13 w9 he hk
      simp [KnownD, Oper.looksAt, Op.operands, Call.operands, List.findIdx?_cons, Act.put] at hk
      simp only [Act.put, List.setIfInBounds_toArray, List.set_cons_succ, List.set_cons_zero]
    · go_wp2_with fail
      exact ⟨rfl, Ext.refl _, rfl⟩
    · go_wp2_with fail
      exact ⟨rfl, Ext.refl _, rfl⟩
    · obtain rfl : u1 = _ := hk
      go_wp2_with fail
      exact ⟨rfl, Ext.refl _, rfl⟩
    · obtain rfl : u2 = _ := hk
      go_wp2_with fail
      exact ⟨rfl, Ext.refl _, rfl⟩
    · obtain rfl : u3 = _ := hk
      have he' : Upd (fun k => v0.ownBlock = some k) w w9 := he
      have hc : w9.cell? ⟨p, 1, none⟩ = some v0 := by rw [blk_cell (he'.heap HP.out HNP.out)]; rfl
      go_wp2_with fail
      exact ⟨rfl, Ext.refl _, rfl⟩
    · go_wp2_with fail
      exact ⟨rfl, Ext.refl _, rfl⟩
    · obtain rfl : u5 = _ := hk
      go_wp2_with fail
      exact ⟨rfl, Ext.refl _, rfl⟩
    · obtain rfl : u6 = _ := hk
      go_wp2_with fail
      exact ⟨rfl, Ext.refl _, rfl⟩
    · obtain rfl : u7 = _ := hk
      have he' : Upd (fun k => v0.ownBlock = some k) w w9 := he
      have hc : w9.cell? ⟨q, 1, none⟩ = some sx := by rw [blk_cell (he'.heap HQ.out HNQ.out)]; rfl
      go_wp2_with fail
      exact ⟨rfl, Ext.refl _, rfl⟩
    · go_wp2_with fail
      exact ⟨rfl, Ext.refl _, rfl⟩
    · obtain ⟨k0, k1, k2⟩ := hk
      have e0 : u4 = v0 := k0
      have e1 : u8 = sx := k1
      have e2 : u9 = .int .u64 (s : Nat) := k2
      clear k0 k1 k2
      subst u4 u8 u9
      have he' : Ext w w9 := he
      have HE9 := Lib.hid he'
      clear he he'
      go_wp2_with fail
      refine (natLsh_any _ _ vs xs s _ (HV.out.ext HE9.out) (HX.out.ext HE9.out) HNX.out hs L hL hlx HSEP.out).mono ?_
      rintro e w8 ⟨ws, g1, g2, g3, v', rfl, g4, g5, g6⟩
      have HD := Lib.hid (show NatD v0 (val xs * 2 ^ s) (L + s / 64 + 1) w v' w8 from ⟨ws, g1, g2, g3, g4, (HE9.out.upd).same g5⟩)
      have HU8 := Lib.hid g5
      clear g1 g2 g4 g5 g6
      go_wp2_with fail
      exact ⟨rfl, HU8.out, HD.out⟩
    · obtain rfl : u0 = _ := hk
      go_wp2_with fail
      exact ⟨rfl, Ext.refl _, rfl⟩
    · obtain rfl : u11 = _ := hk
      go_wp2_with fail
      exact ⟨rfl, Ext.refl _, rfl⟩
  case last =>
    intro w3 he u0 h0 u1 h1 u2 h2 u3 h3 u4 h4 u5 h5 u6 h6 u7 h7 u8 h8 u9 h9 u10 h10 u11 h11 u12 h12
    obtain rfl : u12 = _ := h12
    obtain ⟨ws, g1, g2, g3, g4, g5⟩ := h10
    clear h0 h1 h2 h3 h4 h5 h6 h7 h8 h9 h11
    have hp1 := g5.heap HP.out HNP.out
    have hq1 := g5.heap HQ.out HNQ.out
    obtain ⟨a', c', rfl⟩ := g4.form
    have d0 := blk_cell hp1 0
    have d1 := blk_cell hp1 1
    have f0 := blk_free hp1 0
    have f1 := blk_free hp1 1
    simp at d0 d1
    have hcq : ∀ v, (w3.setCell ⟨p, 1, none⟩ v).cell? ⟨q, 0, none⟩ = some (.bool nx) := fun v => by
      have hc : w3.cell? ⟨q, 0, none⟩ = some (.bool nx) := by rw [blk_cell hq1]; rfl
      rw [World.cell?_setCell_other _ _ _ _ (by simp)]; exact hc
    have hlen : ws.length ≤ 9223372036854775807 := by omega
    have HP1 := Lib.hid hp1
    have HO := Lib.hid g4
    have HG1 := Lib.hid g1
    have HG2 := Lib.hid g2
    have HG5 := Lib.hid g5
    clear hp1 hq1 g1 g2 g4 g5 he
    simp only [LastD, Act.put, List.setIfInBounds_toArray, List.set_cons_succ, List.set_cons_zero]
    go_wp2_with fail
    go_ret
    obtain ⟨i1, i2⟩ := intAt_store (n := nx) HP1.out HO.out
    exact ⟨rfl, ws, i1, HG1.out, HG2.out, g3, (HG5.out.trans i2).mono (fun k hk q => q.elim .inr .inl)⟩

end Go.Proofs.YtocadbghhoibnaaFmt

/- impl.two, with what a shift must know of it; (*Int).Lsh, impl.Lsh by values: contracts. -/
namespace Go.Proofs.YtocadbghhoibnaaFmt
open Go.RowKit

theorem sep_apart {Lx Lz : Nat} {zx zz : Int} {w1 w2 : World} {B0 p q : Nat} {n0 n : Bool} {v0 s : Value} (hx : IntZ Lx zx w1 B0 q) (he : Ext w1 w2) (hz : IntZ Lz zz w2 w1.heap.size p) (h1 : w2.heap[p]? = some (.cells #[.bool n0, v0] 82 (0, 0))) (h2 : w2.heap[q]? = some (.cells #[.bool n, s] 82 (0, 0))) : Apart v0 s := by
  intro k hk hs
  obtain ⟨nx, sx, vx, hxq, hxo⟩ := hx.blk
  rw [he.block hxq] at h2
  simp at h2
  obtain ⟨_, rfl⟩ := h2
  have a := (hx.own hxq hs).2.1
  have b := (hz.own h1 hk).1
  omega

/-- Two Ints: one and the same, or two that share nothing. -/
def TwoA (one : Bool) (L : Nat) (z : Int) (w : World) (e : Ending) (w' : World) : Prop :=
  Ext w w' ∧ ∃ p q, e = .returned (.tuple #[.pointer (some ⟨p, 0, none⟩), .pointer (some ⟨q, 0, none⟩)]) ∧ IntZ L z w' 0 q ∧ w.heap.size ≤ q ∧
    ((one = true ∧ p = q ∧ ∃ n0 v0 vs, w'.heap[p]? = some (.cells #[.bool n0, v0] 82 (0, 0)) ∧ Own .u64 w' w.heap.size 93 v0 vs) ∨ (one = false ∧ p ≠ q ∧ ∃ n0 v0 vs, w'.heap[p]? = some (.cells #[.bool n0, v0] 82 (0, 0)) ∧ Own .u64 w' 0 93 v0 vs ∧
      (∀ w'', Upd (fun k => k = p ∨ v0.ownBlock = some k) w' w'' → IntZ L z w'' 0 q) ∧ (∀ k, (k = p ∨ v0.ownBlock = some k) → w.heap.size ≤ k) ∧ (∀ n s, w'.heap[q]? = some (.cells #[.bool n, s] 82 (0, 0)) → Apart v0 s)))

set_option maxHeartbeats 400000 in
theorem two_a (k : Int) (Lz Lx : Nat) (zz zx : Int) (Z X : Value) (w : World) (hZ : IsZ Lz zz Z w) (hX : IsZ Lx zx X w) (hLz : Lz ≤ 17592186044416) (hLx : Lx ≤ 17592186044416) :
    Calls Tryf.prog 75 #[.int .i64 k, Z, X] w (TwoA (decide (k = 1)) Lx zx w) := by
  obtain ⟨n1, a1, l1, c1, rfl⟩ := hZ.form
  obtain ⟨n2, a2, l2, c2, rfl⟩ := hX.form
  have HZ := Lib.hid hZ
  have HX := Lib.hid hX
  clear hZ hX
  by_cases hk : k = 1
  · subst hk
    rw [show decide ((1 : Int) = 1) = true by simp]
    go_enter Tryf.func75, Tryf.ntmps75
    go_wp2_with fail
    refine (integer_z Lx zx _ _ (HX.out.ext ((Ext.alloc _ _).trans (Ext.alloc _ _))) hLx).mono ?_
    rintro e w1 ⟨he, p, rfl, hp, hI⟩
    simp only [World.size_alloc] at hp hI
    have HE := Lib.hid (((Ext.alloc _ _).trans (Ext.alloc _ _)).trans he)
    have HI := Lib.hid hI
    clear he hI
    go_wp2_with fail
    go_ret2
    obtain ⟨n0, v0, vs, b1, b2⟩ := HI.out.blk
    exact ⟨HE.out, p, p, rfl, HI.out.mono (Nat.zero_le _), by omega, .inl ⟨rfl, rfl, n0, v0, vs, b1, b2.mono (by omega)⟩⟩
  · rw [show decide (k = 1) = false by simp [hk]]
    have hb : (k == 1) = false := by simp [hk]
    clear hk
    go_enter Tryf.func75, Tryf.ntmps75
    go_wp2_with fail
    refine (integer_z Lx zx _ _ (HX.out.ext ((Ext.alloc _ _).trans (Ext.alloc _ _))) hLx).mono ?_
    rintro e w1 ⟨he, q, rfl, hq, hI⟩
    simp only [World.size_alloc] at hq hI
    have hcc := fun a v h => Ext.cell he (a := a) (v := v) h
    have HE := Lib.hid (((Ext.alloc _ _).trans (Ext.alloc _ _)).trans he)
    have HI := Lib.hid hI
    have hs1 := he.size
    simp only [World.size_alloc] at hs1
    clear he hI
    go_wp2_with fail
    refine (integer_z Lz zz _ _ (HZ.out.ext HE.out) hLz).mono ?_
    rintro e w2 ⟨he, p, rfl, hp, hI2⟩
    have hsep := sep_two HI.out he hI2 hp
    have HE2 := Lib.hid (HE.out.trans he)
    have HI2 := Lib.hid (HI.out.ext he)
    have HS := Lib.hid hsep
    have HAP := Lib.hid (fun n0 v0 n s h1 h2 => sep_apart (n0 := n0) (v0 := v0) (n := n) (s := s) HI.out he hI2 h1 h2)
    clear he hI2 hcc hsep
    go_wp2_with fail
    go_ret2
    obtain ⟨hpq, n0, v0, vs, q1, q2, q3, q4⟩ := HS.out
    exact ⟨HE2.out, p, q, rfl, HI2.out.mono (Nat.zero_le _), by omega, .inr ⟨rfl, hpq, n0, v0, vs, q1, q2, q3, fun k hk => (by have := q4 k hk; omega), fun n s h => HAP.out _ _ _ _ q1 h⟩⟩

theorem intLsh_z (L : Nat) (z : Int) (s p q : Nat) (n0 : Bool) (v0 : Value) (vs : List Nat) (w : World) (hp : w.heap[p]? = some (.cells #[.bool n0, v0] 82 (0, 0))) (hv : Own .u64 w 0 93 v0 vs) (hx : IntZ L z w 0 q) (hs : s < 18446744073709551616) (hL : L + s / 64 + 1 ≤ 17592186044416) (hsep : ∀ n t, w.heap[q]? = some (.cells #[.bool n, t] 82 (0, 0)) → v0 = t ∨ Apart v0 t) :
    Calls Tryf.prog 76 #[.pointer (some ⟨p, 0, none⟩), .pointer (some ⟨q, 0, none⟩), .int .u64 (s : Nat)] w fun e w' => e = .returned (.pointer (some ⟨p, 0, none⟩)) ∧ IntZ (L + s / 64 + 1) (z * 2 ^ s) w' 0 p ∧ Upd (fun k => k = p ∨ v0.ownBlock = some k) w w' := by
  obtain ⟨ax, cx, xs, hq, hox, hnx, hvx, hlx⟩ := hx.low
  refine (intLsh_any p q n0 _ v0 _ vs xs s L w hp hq hv hox hnx hs hL hlx (hsep _ _ hq)).mono ?_
  rintro e w' ⟨h1, ws, h2, h3, h4, h5, h6⟩
  have hpos : (0 : Int) < 2 ^ s := Int.pow_pos (by decide)
  refine ⟨h1, ⟨ws, ?_, h3, ?_, h5⟩, h6⟩
  · rw [show decide (z * 2 ^ s < 0) = decide (z < 0) from decide_eq_decide.2 ⟨fun h => by
      rcases Int.lt_or_le z 0 with h0 | h0
      · exact h0
      · have := Int.mul_nonneg h0 (Int.le_of_lt hpos); omega, fun h => Int.mul_neg_of_neg_of_pos h hpos⟩]
    exact h2
  · rw [h4, hvx, Int.natAbs_mul, Int.natAbs_pow]; rfl

set_option maxHeartbeats 1000000 in
theorem implLsh_z (k : Int) (L : Nat) (zz z : Int) (s : Nat) (Z X : Value) (w : World) (hZ : IsZ L zz Z w) (hX : IsZ L z X w) (hs : s < 18446744073709551616) (hL : L + s / 64 + 1 ≤ 17592186044416) :
    Calls Tryf.prog 49 #[.int .i64 k, Z, X, .int .u64 (s : Nat)] w (ResR (IsT (L + s / 64 + 1) (z * 2 ^ s) (after1 k (z * 2 ^ s) z) 0) w) := by
  obtain ⟨n1, a1, l1, c1, rfl⟩ := hZ.form
  obtain ⟨n2, a2, l2, c2, rfl⟩ := hX.form
  have HZ := Lib.hid hZ
  have HX := Lib.hid hX
  have HS := Lib.hid hs
  clear hZ hX hs
  generalize haf : after1 k (z * 2 ^ s) z = af
  have HAF := Lib.hid haf
  clear haf
  generalize hres : z * 2 ^ s = rz at *
  have HRES := Lib.hid hres
  clear hres
  go_enter Tryf.func49, Tryf.ntmps49
  go_wp2_with fail
  refine (two_a k L L zz z _ _ _ (HZ.out.ext (((Ext.alloc _ _).trans (Ext.alloc _ _)).trans (Ext.alloc _ _))) (HX.out.ext (((Ext.alloc _ _).trans (Ext.alloc _ _)).trans (Ext.alloc _ _))) (by omega) (by omega)).mono ?_
  rintro e w1 ⟨he, p, q, rfl, hI, hqn, hor⟩
  simp only [World.size_alloc] at hqn hor
  have hE : Ext w w1 := (((Ext.alloc _ _).trans (Ext.alloc _ _)).trans (Ext.alloc _ _)).trans he
  have hP : w1.heap[w.heap.size + 2]? = some (.cells #[.bool false, .slice none 0 0, .bool false, .slice none 0 0, .bool false, .slice none 0 0] 75 (0, 0)) := he.block (heap_third _ _ _ _)
  have HI := Lib.hid hI
  have HE := Lib.hid hE
  have HP := Lib.hid hP
  clear hI hE hP he
  rcases hor with ⟨hk, rfl, n0, v0, vs, q1, q2⟩ | ⟨hk, hpq, n0, v0, vs, q1, q2, q3, q4, q5⟩
  · have hk1 : k = 1 := of_decide_eq_true hk
    have haf : rz = af := by rw [← HAF.out, after1, hk, cond_true]
    have HK := Lib.hid haf
    have Q1 := Lib.hid q1
    have Q2 := Lib.hid q2
    have hown : ∀ i, v0.ownBlock = some i → w.heap.size + 3 ≤ i := by
      intro i hi
      rcases q2.2.2 with ⟨rfl, _⟩ | ⟨g', cap, cur, rfl, hb', _⟩
      · simp [Value.ownBlock] at hi
      · simp [Value.ownBlock] at hi; omega
    have HOW := Lib.hid hown
    clear hk hk1 haf q1 q2 hown
    go_wp2_with fail
    refine (intLsh_z L z s p p n0 v0 vs _ Q1.out (Q2.out.mono (Nat.zero_le _)) HI.out HS.out hL (fun n t h => by rw [Q1.out] at h; simp at h; exact .inl h.2)).mono ?_
    rw [HRES.out]
    rintro e w2 ⟨rfl, hI', hU⟩
    have hE2 : Ext w w2 := hU.ext HE.out (fun i hi => by rcases hi with rfl | hi; omega; have := HOW.out i hi; omega)
    have hP2 : w2.heap[w.heap.size + 2]? = _ := hU.heap HP.out (fun h => by rcases h with h | h; omega; have := HOW.out _ h; omega)
    have hA : IntZ (L + s / 64 + 1) af w2 0 p := HK.out ▸ hI'
    clear hU
    have HI' := Lib.hid hI'
    have HE2 := Lib.hid hE2
    have HA := Lib.hid hA
    have hp1 := hP2
    have HP1 := Lib.hid hp1
    clear hI' hE2 hA hP2 hp1
    go_wp2_with fail
    refine (pair_z (L + s / 64 + 1) (rz) (af) _ _ _ HI'.out HA.out hL).mono ?_
    rintro e w3 ⟨he, v, rfl, n1, s1, n2, s2, n3, s3, rfl, g1, g2, g3⟩
    obtain ⟨m1, a1, l1, c1, e1⟩ := g1.form
    obtain ⟨m2, a2, l2, c2, e2⟩ := g2.form
    obtain ⟨m3, a3, l3, c3, e3⟩ := g3.form
    simp at e1 e2 e3
    obtain ⟨rfl, rfl⟩ := e1
    obtain ⟨rfl, rfl⟩ := e2
    obtain ⟨rfl, rfl⟩ := e3
    have hp2 := he.block HP1.out
    have d0 := blk_cell hp2 0
    have d1 := blk_cell hp2 1
    have d2 := blk_cell hp2 2
    have d3 := blk_cell hp2 3
    have d4 := blk_cell hp2 4
    have d5 := blk_cell hp2 5
    have f0 := blk_free hp2 0
    have f1 := blk_free hp2 1
    have f2 := blk_free hp2 2
    have f3 := blk_free hp2 3
    have f4 := blk_free hp2 4
    have f5 := blk_free hp2 5
    simp at d0 d1 d2 d3 d4 d5
    have G1 := Lib.hid g1
    have G2 := Lib.hid g2
    have G3 := Lib.hid g3
    have HP2 := Lib.hid hp2
    have HE3 := Lib.hid (HE2.out.trans he)
    clear g1 g2 g3 hp2 he
    go_wp2_with fail
    have hh := put6_heap HP2.out (.bool m1) (.slice a1 l1 c1) (.bool m2) (.slice a2 l2 c2) (.bool m3) (.slice a3 l3 c3)
    have hu := put6_upd w3 (w.heap.size + 2) (.bool m1) (.slice a1 l1 c1) (.bool m2) (.slice a2 l2 c2) (.bool m3) (.slice a3 l3 c3)
    exact bodyPost_ret (results_triple rfl _ rfl (blk_cell hh 0) (blk_cell hh 1) (blk_cell hh 2) (blk_cell hh 3) (blk_cell hh 4) (blk_cell hh 5)) rfl
      ⟨hu.ext HE3.out (by omega), _, rfl, _, _, _, _, _, _, rfl, G1.out.upd HP2.out (by decide) hu, G2.out.upd HP2.out (by decide) hu, G3.out.upd HP2.out (by decide) hu⟩
  · have hk1 : ¬ k = 1 := of_decide_eq_false hk
    have haf : z = af := by rw [← HAF.out, after1, hk, cond_false]
    have HK := Lib.hid haf
    have Q1 := Lib.hid q1
    have Q2 := Lib.hid q2
    have Q3 := Lib.hid q3
    have Q4 := Lib.hid q4
    have Q5 := Lib.hid q5
    clear hk hk1 haf q1 q2 q3 q4 q5
    go_wp2_with fail
    refine (intLsh_z L z s p q n0 v0 vs _ Q1.out Q2.out HI.out HS.out hL (fun n t h => .inr (Q5.out n t h))).mono ?_
    rw [HRES.out]
    rintro e w2 ⟨rfl, hI', hU⟩
    have hE2 : Ext w w2 := hU.ext HE.out (fun i hi => by have := Q4.out i hi; omega)
    have hP2 : w2.heap[w.heap.size + 2]? = _ := hU.heap HP.out (fun h => by have := Q4.out _ h; omega)
    have hA : IntZ (L + s / 64 + 1) af w2 0 q := HK.out ▸ (Q3.out w2 hU).more (by omega)
    clear hU
    have HI' := Lib.hid hI'
    have HE2 := Lib.hid hE2
    have HA := Lib.hid hA
    have hp1 := hP2
    have HP1 := Lib.hid hp1
    clear hI' hE2 hA hP2 hp1
    go_wp2_with fail
    refine (pair_z (L + s / 64 + 1) (rz) (af) _ _ _ HI'.out HA.out hL).mono ?_
    rintro e w3 ⟨he, v, rfl, n1, s1, n2, s2, n3, s3, rfl, g1, g2, g3⟩
    obtain ⟨m1, a1, l1, c1, e1⟩ := g1.form
    obtain ⟨m2, a2, l2, c2, e2⟩ := g2.form
    obtain ⟨m3, a3, l3, c3, e3⟩ := g3.form
    simp at e1 e2 e3
    obtain ⟨rfl, rfl⟩ := e1
    obtain ⟨rfl, rfl⟩ := e2
    obtain ⟨rfl, rfl⟩ := e3
    have hp2 := he.block HP1.out
    have d0 := blk_cell hp2 0
    have d1 := blk_cell hp2 1
    have d2 := blk_cell hp2 2
    have d3 := blk_cell hp2 3
    have d4 := blk_cell hp2 4
    have d5 := blk_cell hp2 5
    have f0 := blk_free hp2 0
    have f1 := blk_free hp2 1
    have f2 := blk_free hp2 2
    have f3 := blk_free hp2 3
    have f4 := blk_free hp2 4
    have f5 := blk_free hp2 5
    simp at d0 d1 d2 d3 d4 d5
    have G1 := Lib.hid g1
    have G2 := Lib.hid g2
    have G3 := Lib.hid g3
    have HP2 := Lib.hid hp2
    have HE3 := Lib.hid (HE2.out.trans he)
    clear g1 g2 g3 hp2 he
    go_wp2_with fail
    have hh := put6_heap HP2.out (.bool m1) (.slice a1 l1 c1) (.bool m2) (.slice a2 l2 c2) (.bool m3) (.slice a3 l3 c3)
    have hu := put6_upd w3 (w.heap.size + 2) (.bool m1) (.slice a1 l1 c1) (.bool m2) (.slice a2 l2 c2) (.bool m3) (.slice a3 l3 c3)
    exact bodyPost_ret (results_triple rfl _ rfl (blk_cell hh 0) (blk_cell hh 1) (blk_cell hh 2) (blk_cell hh 3) (blk_cell hh 4) (blk_cell hh 5)) rfl
      ⟨hu.ext HE3.out (by omega), _, rfl, _, _, _, _, _, _, rfl, G1.out.upd HP2.out (by decide) hu, G2.out.upd HP2.out (by decide) hu, G3.out.upd HP2.out (by decide) hu⟩

end Go.Proofs.YtocadbghhoibnaaFmt

/- bits.Len off the shelf, nat.bitLen, (*Int).BitLen, impl.BitLen: contracts. -/
namespace Go.Proofs.YtocadbghhoibnaaFmt
open Go.RowKit

theorem bitLenAux_pos {f x : Nat} (hx : x ≠ 0) : Lib.bitLenAux (f + 1) x = 1 + Lib.bitLenAux f (x / 2) := by
  simp [Lib.bitLenAux, hx]

theorem bitLenAux_eq (f x : Nat) (h : x < 2 ^ f) : Lib.bitLenAux f x = blenN x := by
  induction f generalizing x with
  | zero =>
    have : x = 0 := by simp at h; omega
    subst this; rfl
  | succ f ih =>
    by_cases hx : x = 0
    · subst hx; simp [Lib.bitLenAux, blenN]
    · rw [bitLenAux_pos hx, ih (x / 2) (by rw [Nat.pow_succ] at h; omega)]
      symm
      have h1 := lt_blenN (x / 2)
      refine blenN_unique ?_ ?_
      · rw [Nat.add_comm, Nat.pow_succ]; omega
      · right
        rw [Nat.add_sub_cancel_left]
        by_cases h2 : x / 2 = 0
        · rw [h2]; simp [blenN]; omega
        · have h3 := blenN_le (x / 2) h2
          have h4 : 0 < blenN (x / 2) := by unfold blenN; rw [if_neg h2]; omega
          have h5 : 2 ^ blenN (x / 2) = 2 ^ (blenN (x / 2) - 1) * 2 := by rw [← Nat.pow_succ]; congr 1; omega
          omega

/-- A word with its upper bits smeared downwards has the same length. -/
theorem smear (x : Nat) (hx : x < 18446744073709551616) (d : Nat) (hd : 0 < d) : ∃ s : Nat, s < 18446744073709551616 ∧ blenN s = blenN x ∧ bits .or .u64 (x : Int) ((x : Int) / (d : Int)) = (s : Int) := by
  rw [← Int.natCast_ediv]
  have hle : x / d ≤ x := Nat.div_le_self x d
  refine ⟨x ||| (x / d), ?_, ?_, bits_or_u64_nat x (x / d) hx (by omega)⟩
  · exact Nat.or_lt_two_pow (n := 64) (by omega) (by omega)
  · have h1 := lt_blenN x
    refine blenN_unique (Nat.or_lt_two_pow h1 (by omega)) ?_
    by_cases h0 : x = 0
    · subst h0; left; rfl
    · right
      have := blenN_le x h0
      have h2 : x ≤ x ||| (x / d) := Nat.left_le_or
      omega

theorem blen_words {ws : List Nat} (hb : ∀ x ∈ ws, x < 18446744073709551616) (hpos : 0 < ws.length) (h0 : ws.getD (ws.length - 1) 0 ≠ 0) : blenN (val ws) = (ws.length - 1) * 64 + blenN (ws.getD (ws.length - 1) 0) := by
  generalize ht : ws.getD (ws.length - 1) 0 = t at *
  have h1 := val_split ws (ws.length - 1)
  have h2 := val_drop ws (ws.length - 1)
  rw [show ws.length - 1 + 1 = ws.length by omega, val_drop_all ws ws.length (Nat.le_refl _), ht] at h2
  have h3 := val_take_lt ws hb (ws.length - 1)
  rw [h2, pow64] at h1
  rw [pow64] at h3
  rw [Nat.mul_comm (ws.length - 1) 64]
  generalize 64 * (ws.length - 1) = m at *
  have h4 := lt_blenN t
  have h5 := blenN_le t h0
  have h6 : 0 < blenN t := by unfold blenN; rw [if_neg h0]; omega
  refine blenN_unique ?_ (.inr ?_)
  · rw [h1, Nat.pow_add]
    have : 2 ^ m * (t + 1) ≤ 2 ^ m * 2 ^ blenN t := Nat.mul_le_mul_left _ h4
    rw [Nat.mul_add] at this
    simp only [Nat.mul_zero, Nat.add_zero, Nat.mul_one] at *
    omega
  · rw [h1, show m + blenN t - 1 = m + (blenN t - 1) by omega, Nat.pow_add]
    have : 2 ^ m * 2 ^ (blenN t - 1) ≤ 2 ^ m * t := Nat.mul_le_mul_left _ h5
    simp only [Nat.mul_zero, Nat.add_zero] at *
    omega

theorem ret_i {a b : Int} (h : a = b) : Ending.returned (.int .i64 a) = .returned (.int .i64 b) := by rw [h]

theorem last_ne {ws : List Nat} (hn : norm ws = ws) (hpos : 0 < ws.length) : ws.getD (ws.length - 1) 0 ≠ 0 := by
  intro h
  have h1 := normLen_step ws ws.length hpos (Nat.le_refl _) h
  rw [List.take_length] at h1
  have h2 := normLen_le (ws.take (ws.length - 1))
  have h3 := norm_length ws
  rw [hn] at h3
  simp at h2
  omega

end Go.Proofs.YtocadbghhoibnaaFmt

/- (*Int).Cmp (printed by lawgen.py). -/
namespace Go.Proofs.YtocadbghhoibnaaFmt
open Go.RowKit

theorem eqlOther {p q : Nat} (hpq : p ≠ q) {w : World} {c d : Array Value} {T U : TypeId} (hp : w.heap[p]? = some (.cells c T (0, 0))) (hq : w.heap[q]? = some (.cells d U (0, 0))) :
    (binOp .eql 65 (.pointer (some ⟨p, 0, none⟩)) (.pointer (some ⟨q, 0, none⟩))).run Tryf.prog w = .ok (.bool false) w := by
  obtain ⟨j, h1, h2⟩ := infoInt'
  exact run_eql_ptr_other w Tryf.underlying65 h1 (by omega) (a := ⟨p, 0, none⟩) (b := ⟨q, 0, none⟩) (by simp [hpq]) hp hq

theorem eqlSame (a : Addr) (w : World) : (binOp .eql 65 (.pointer (some a)) (.pointer (some a))).run Tryf.prog w = .ok (.bool true) w := by
  obtain ⟨j, h1, _⟩ := infoInt'
  exact run_eql_ptr_same w a Tryf.underlying65 h1

theorem Rd.unique {k : IntKind} {w : World} {a : Option Addr} {n m c c' : Nat} {ws vs : List Nat} (h : Rd k w (.slice a n c) ws) (h' : Rd k w (.slice a m c') vs) (hl : ws.length = vs.length) : ws = vs := by
  obtain ⟨_, a1, c1, e1, _, _, _, r1⟩ := h
  obtain ⟨_, a2, c2, e2, _, _, _, r2⟩ := h'
  simp at e1 e2
  obtain ⟨rfl, _, _⟩ := e1
  obtain ⟨rfl, _, _⟩ := e2
  refine List.ext_getElem hl fun i hi hi' => ?_
  obtain ⟨b, o, q1, q2⟩ := r1 i hi
  obtain ⟨b', o', q3, q4⟩ := r2 i hi'
  rw [q1] at q3
  simp at q3
  obtain ⟨rfl, rfl⟩ := q3
  rw [q2] at q4
  simp only [Option.some.injEq, Value.int.injEq, true_and, List.getD_eq_getElem?_getD, List.getElem?_eq_getElem hi, List.getElem?_eq_getElem hi', Option.getD_some] at q4
  omega

theorem cmpZ_tri (a b : Int) : cmpZ a b = -1 ∨ cmpZ a b = 0 ∨ cmpZ a b = 1 := by
  unfold cmpZ; split
  · exact .inl rfl
  · split
    · exact .inr (.inr rfl)
    · exact .inr (.inl rfl)

theorem cmpZ_neg_abs {a b : Int} (ha : a < 0) (hb : b < 0) : -(cmpZ (a.natAbs : Int) (b.natAbs : Int)) = cmpZ a b := by
  rcases Int.lt_trichotomy a b with q | q | q
  · rw [cmpZ_lt q, cmpZ_gt (by omega)]
  · rw [cmpZ_eq q, cmpZ_eq (by omega)]; rfl
  · rw [cmpZ_gt q, cmpZ_lt (by omega)]; rfl

theorem cmpZ_pos_abs {a b : Int} (ha : ¬ a < 0) (hb : ¬ b < 0) : cmpZ (a.natAbs : Int) (b.natAbs : Int) = cmpZ a b := by
  rw [Int.natAbs_of_nonneg (by omega), Int.natAbs_of_nonneg (by omega)]

end Go.Proofs.YtocadbghhoibnaaFmt

/- FnExactCmp, FnCmpTurns, FnCmpOrder (printed by lawgen.py). -/
namespace Go.Proofs.YtocadbghhoibnaaFmt
open Go.RowKit

theorem cmpZ_zero (a b : Int) : (cmpZ a b == 0) = decide (a = b) := by
  rcases Int.lt_trichotomy a b with h | h | h
  · rw [cmpZ_lt h]; simp; omega
  · rw [cmpZ_eq h]; simp [h]
  · rw [cmpZ_gt h]; simp; omega

theorem cmpZ_swap (a b : Int) : cmpZ b a = -cmpZ a b := by
  rcases Int.lt_trichotomy a b with h | h | h
  · rw [cmpZ_lt h, cmpZ_gt h]; rfl
  · rw [cmpZ_eq h, cmpZ_eq h.symm]; rfl
  · rw [cmpZ_gt h, cmpZ_lt h]

theorem cmpZ_bd (a b : Int) : -1 ≤ cmpZ a b ∧ cmpZ a b ≤ 1 := by
  rcases cmpZ_tri a b with h | h | h <;> rw [h] <;> omega

theorem cmpZ_le {a b : Int} (h : a ≤ b) : cmpZ a b ≤ 0 := by
  rcases Int.lt_or_eq_of_le h with h | h
  · rw [cmpZ_lt h]; omega
  · rw [cmpZ_eq h]; omega

end Go.Proofs.YtocadbghhoibnaaFmt

/- laws.lsh by values (printed by lawgen.py). -/
namespace Go.Proofs.YtocadbghhoibnaaFmt
open Go.RowKit

set_option maxHeartbeats 1000000 in
theorem lsh_z (L : Nat) (z : Int) (s : Nat) (x0 : Value) (w : World) (hz0 : IsZ (L) (z) x0 w) (hs : s < 18446744073709551616) (hL : L + s / 64 + 1 ≤ 17592186044416) :
    Calls Tryf.prog 24 #[x0, .int .u64 (s : Nat)] w (ResR (IsC (L + s / 64 + 1) (z * 2 ^ s)) w) := by
  obtain ⟨n0, a0, l0, c0, rfl⟩ := hz0.form
  have HZ0 := Lib.hid hz0
  clear hz0
  have HS := Lib.hid hs
  clear hs
  go_enter Tryf.func24, Tryf.ntmps24
  go_wp2_with fail
  refine (toImpl_z (L) (z) _ _ ((HZ0.out.ext ((Ext.alloc _ _).trans (Ext.alloc _ _)))) (by omega)).mono ?_
  rintro e w1 ⟨he, y1, rfl, hy⟩
  have HB := Lib.hid he
  have HE := Lib.hid (((Ext.alloc _ _).trans (Ext.alloc _ _)).trans he)
  clear he
  have HY1 := Lib.hid hy
  clear hy
  have hcc := fun a v h => Ext.cell HB.out (a := a) (v := v) h
  go_wp2_with fail
  refine (implLsh_z 0 L 0 z s _ _ _ ((IsZ.zeroN _).mono (by omega)) (HY1.out.z) HS.out hL).mono ?_
  clear hcc
  rintro e w2 ⟨he, y2, rfl, hy⟩
  replace HY1 := Lib.hid (HY1.out.ext he)
  replace HB := Lib.hid (HB.out.trans he)
  replace HE := Lib.hid (HE.out.trans he)
  clear he
  obtain ⟨m1, s1, m2, s2, m3, s3, rfl, t1, t2, t3⟩ := hy
  have HT1 := Lib.hid t1
  have HT2 := Lib.hid t2
  have HT3 := Lib.hid t3
  clear t1 t2 t3
  have hfz := field_z m1 s1 m2 s2 m3 s3
  have hcc := fun a v h => Ext.cell HB.out (a := a) (v := v) h
  go_wp2_with fail
  refine (fromImpl_z ((L + s / 64 + 1)) (z * 2 ^ s) _ _ HT1.out).mono ?_
  clear hcc
  rintro e w3 ⟨he, y3, rfl, hy⟩
  replace HY1 := Lib.hid (HY1.out.ext he)
  replace HT1 := Lib.hid (HT1.out.ext he)
  replace HT2 := Lib.hid (HT2.out.ext he)
  replace HT3 := Lib.hid (HT3.out.ext he)
  replace HB := Lib.hid (HB.out.trans he)
  replace HE := Lib.hid (HE.out.trans he)
  clear he
  have HY3 := Lib.hid hy
  clear hy
  obtain ⟨m, aa, ll, cc, rfl⟩ := HY3.out.form
  have hp : w3.heap[w.heap.size + 1]? = some (.cells #[.bool false, .slice none 0 0] 26 (0, 0)) := HB.out.block (heap_second _ _ _)
  have d0 := blk_cell hp 0
  have d1 := blk_cell hp 1
  have f0 := blk_free hp 0
  have f1 := blk_free hp 1
  simp at d0 d1
  have HP := Lib.hid hp
  clear hp
  try clear hfz
  go_wp2_with fail
  obtain ⟨e0, e1, hu⟩ := set2 HP.out (.bool m) (.slice aa ll cc)
  exact bodyPost_ret (results_laws rfl _ rfl e0 e1) rfl ⟨hu.ext HE.out (by omega), _, rfl, HY3.out.upd HP.out (by decide) hu⟩

theorem u64_nat {x : Int} (hx : (Lit.int .u64 x).wf = true) : ∃ n : Nat, x = n ∧ n < 18446744073709551616 := by
  have h : 0 ≤ x ∧ x ≤ 18446744073709551615 := by simpa [Lit.wf, IntKind.min, IntKind.max, IntKind.signed, IntKind.bits] using hx
  exact ⟨x.toNat, by omega, by omega⟩

theorem pow_posZ (n : Nat) : (0 : Int) < 2 ^ n := Int.pow_pos (by decide)

theorem cmpZ_shl (a b : Int) (n : Nat) : cmpZ (a * 2 ^ n) (b * 2 ^ n) = cmpZ a b := by
  have hp := pow_posZ n
  rcases Int.lt_trichotomy a b with h | h | h
  · rw [cmpZ_lt h, cmpZ_lt (Int.mul_lt_mul_of_pos_right h hp)]
  · rw [h, cmpZ_eq rfl, cmpZ_eq rfl]
  · rw [cmpZ_gt h, cmpZ_gt (Int.mul_lt_mul_of_pos_right h hp)]

theorem sgnZ_shl (a : Int) (n : Nat) : sgnZ (a * 2 ^ n) = sgnZ a := by
  have hp := pow_posZ n
  unfold sgnZ
  rcases Int.lt_trichotomy a 0 with h | h | h
  · rw [if_pos h, if_pos (Int.mul_neg_of_neg_of_pos h hp)]
  · subst h; simp
  · have := Int.mul_pos h hp
    rw [if_neg (by omega), if_neg (by omega), if_neg (by omega), if_neg (by omega)]

theorem blen_neg (a : Int) : blen (-a) = blen a := by unfold blen; rw [Int.natAbs_neg]

theorem blen_shl {a : Int} (h : a ≠ 0) (n : Nat) : blen (a * 2 ^ n) = blen a + n := by
  unfold blen
  rw [Int.natAbs_mul, Int.natAbs_pow]
  have h0 : a.natAbs ≠ 0 := by omega
  have h1 := lt_blenN a.natAbs
  have h2 := blenN_le a.natAbs h0
  have h3 : 0 < blenN a.natAbs := by unfold blenN; rw [if_neg h0]; omega
  refine blenN_unique ?_ (.inr ?_)
  · rw [Nat.pow_add]; exact Nat.mul_lt_mul_of_pos_right h1 (Nat.pow_pos (by decide))
  · rw [show blenN a.natAbs + n - 1 = (blenN a.natAbs - 1) + n by omega, Nat.pow_add]
    exact Nat.mul_le_mul_right _ h2

theorem IsZ.blen_le {L : Nat} {z : Int} {x : Value} {w : World} (h : IsZ L z x w) : blen z ≤ 64 * L := by
  obtain ⟨n, s, ws, _, hr, hl, rfl⟩ := h
  unfold blen
  rw [ival_abs, blenN_le_iff]
  have h1 := val_lt ws hr.1
  rw [pow64] at h1
  exact Nat.lt_of_lt_of_le h1 (Nat.pow_le_pow_right (by decide) (by omega))

theorem lsh_n (L : Nat) (z : Int) (s : Nat) (x : Value) (w : World) (h : IsZ L z x w) (hs : s ≤ 4096) (hL : L + 65 ≤ 17592186044416) : Calls Tryf.prog 24 #[x, .int .u64 (s : Nat)] w (ResR (IsC (L + 65) (z * 2 ^ s)) w) :=
  (lsh_z L z s x w h (by omega) (by omega)).mono fun e w' ⟨h1, y, h2, h3⟩ => ⟨h1, y, h2, h3.mono (by omega)⟩

end Go.Proofs.YtocadbghhoibnaaFmt
