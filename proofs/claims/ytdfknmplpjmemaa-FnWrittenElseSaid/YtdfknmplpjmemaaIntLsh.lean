/- (*Int).Lsh, impl.Lsh by values: contracts. -/
import Derived.Test.YtdfknmplpjmemaaLshAny
import Derived.Test.YtdfknmplpjmemaaImplNA
set_option linter.unusedSimpArgs false
set_option linter.unusedVariables false
namespace Go.Proofs.Ytdfknmplpjmemaa
open Go.RowKit

/-- What a shift leaves: the Int at p has the words of value t and the sign n. -/
def LshR (p : Nat) (v0 : Value) (t L : Nat) (n : Bool) (w : World) (e : Ending) (w' : World) : Prop :=
  e = .returned (.pointer (some ⟨p, 0, none⟩)) ∧ ∃ ws, IntAt w' 0 p n ws ∧ norm ws = ws ∧ val ws = t ∧ ws.length ≤ L ∧ Upd (fun k => k = p ∨ v0.ownBlock = some k) w w'

set_option maxRecDepth 100000 in
set_option maxHeartbeats 2000000 in
theorem intLsh_any (p q : Nat) (n0 nx : Bool) (v0 sx : Value) (vs xs : List Nat) (s L : Nat) (w : World) (hp : w.heap[p]? = some (.cells #[.bool n0, v0] 80 (0, 0))) (hq : w.heap[q]? = some (.cells #[.bool nx, sx] 80 (0, 0))) (hv : Own .u64 w 0 83 v0 vs) (hx : Own .u64 w 0 83 sx xs) (hnx : norm xs = xs) (hs : s < 18446744073709551616) (hL : L + s / 64 + 1 ≤ 17592186044416) (hlx : xs.length ≤ L) (hsep : v0 = sx ∨ Apart v0 sx) :
    Calls Try.prog 55 #[.pointer (some ⟨p, 0, none⟩), .pointer (some ⟨q, 0, none⟩), .int .u64 (s : Nat)] w (LshR p v0 (val xs * 2 ^ s) (L + s / 64 + 1) nx w) := by
  have hnp := hv.not hp (by decide)
  have hnq := hv.not hq (by decide)
  obtain ⟨a0, c0, rfl⟩ := hv.form
  obtain ⟨ax, cx, rfl⟩ := hx.form
  generalize hv0 : Value.slice a0 vs.length c0 = v0 at *
  generalize hsx : Value.slice ax xs.length cx = sx at *
  have HP := Lib.hid hp
  have HQ := Lib.hid hq
  have HV := Lib.hid hv
  have HX := Lib.hid hx
  have HNX := Lib.hid hnx
  have HNP := Lib.hid hnp
  have HNQ := Lib.hid hnq
  have HSEP := Lib.hid hsep
  have HFX := Lib.hid hsx
  have HFV := Lib.hid hv0
  clear hp hq hv hx hnx hnp hnq hsep hsx hv0
  go_enter Try.func55, Try.ntmps55
  go_wp2_with fail
  refine wp_region_H preExt (preUpd (fun k => v0.ownBlock = some k)) (fun _ _ h => h.upd) 10 mixed [Is (.pointer (some ⟨p, 0, none⟩)), Is (.pointer (some ⟨p, 0, none⟩)), Is (.pointer (some ⟨p, 0, none⟩)), Is (.pointer (some ⟨p, 1, none⟩)), Is v0, Is (.pointer (some ⟨q, 0, none⟩)), Is (.pointer (some ⟨q, 0, none⟩)), Is (.pointer (some ⟨q, 1, none⟩)), Is sx, Is (.int .u64 (s : Nat)), NatD v0 (val xs * 2 ^ s) (L + s / 64 + 1) w, Is (.pointer (some ⟨p, 0, none⟩)), Is (.pointer (some ⟨p, 1, none⟩))] (by kernel_rfl) ?mono ?monoU rfl ?steps ?last
  case mono =>
    simp only [List.forall_mem_cons, List.not_mem_nil, false_implies, implies_true, and_true]
    refine ⟨?_, ?_, ?_, ?_, ?_, ?_, ?_, ?_, ?_, ?_, ?_, ?_, ?_⟩
    all_goals first | exact fun _ _ _ _ q => q | exact fun _ _ _ he q => q.ext he
  case monoU =>
    intro j hj
    match j, hj with
    | 0, _ => exact fun _ _ _ _ q => q
    | 1, _ => exact fun _ _ _ _ q => q
    | 2, _ => exact fun _ _ _ _ q => q
    | 3, _ => exact fun _ _ _ _ q => q
    | 4, _ => exact fun _ _ _ _ q => q
    | 5, _ => exact fun _ _ _ _ q => q
    | 6, _ => exact fun _ _ _ _ q => q
    | 7, _ => exact fun _ _ _ _ q => q
    | 8, _ => exact fun _ _ _ _ q => q
    | 9, _ => exact fun _ _ _ _ q => q
    | 10, h => exact absurd rfl h
    | 11, _ => exact fun _ _ _ _ q => q
    | 12, _ => exact fun _ _ _ _ q => q
    | j + 13, _ => exact fun _ _ _ _ q => trivial
  case steps =>
    refine ⟨?_, ?_, ?_, ?_, ?_, ?_, ?_, ?_, ?_, ?_, ?_, ?_, ?_, trivial⟩
    all_goals
      intro u0 u1 u2 u3 u4 u5 u6 u7 u8 u9 u10 u11 u12 u13 w9 he hk
      simp [KnownD, Oper.looksAt, Op.operands, Call.operands, List.findIdx?_cons, Act.put] at hk
      simp only [Act.put, List.setIfInBounds_toArray, List.set_cons_succ, List.set_cons_zero]
    · go_wp2_with fail
      exact ⟨rfl, Ext.refl _, rfl⟩
    · go_wp2_with fail
      exact ⟨rfl, Ext.refl _, rfl⟩
    · obtain rfl : u1 = _ := hk
      go_wp2_with fail
      exact ⟨rfl, Ext.refl _, rfl⟩
    · obtain rfl : u2 = _ := hk
      go_wp2_with fail
      exact ⟨rfl, Ext.refl _, rfl⟩
    · obtain rfl : u3 = _ := hk
      have he' : Upd (fun k => v0.ownBlock = some k) w w9 := he
      have hc : w9.cell? ⟨p, 1, none⟩ = some v0 := by rw [blk_cell (he'.heap HP.out HNP.out)]; rfl
      go_wp2_with fail
      exact ⟨rfl, Ext.refl _, rfl⟩
    · go_wp2_with fail
      exact ⟨rfl, Ext.refl _, rfl⟩
    · obtain rfl : u5 = _ := hk
      go_wp2_with fail
      exact ⟨rfl, Ext.refl _, rfl⟩
    · obtain rfl : u6 = _ := hk
      go_wp2_with fail
      exact ⟨rfl, Ext.refl _, rfl⟩
    · obtain rfl : u7 = _ := hk
      have he' : Upd (fun k => v0.ownBlock = some k) w w9 := he
      have hc : w9.cell? ⟨q, 1, none⟩ = some sx := by rw [blk_cell (he'.heap HQ.out HNQ.out)]; rfl
      go_wp2_with fail
      exact ⟨rfl, Ext.refl _, rfl⟩
    · go_wp2_with fail
      exact ⟨rfl, Ext.refl _, rfl⟩
    · obtain ⟨k0, k1, k2⟩ := hk
      have e0 : u4 = v0 := k0
      have e1 : u8 = sx := k1
      have e2 : u9 = .int .u64 (s : Nat) := k2
      clear k0 k1 k2
      subst u4 u8 u9
      have he' : Ext w w9 := he
      have HE9 := Lib.hid he'
      clear he he'
      go_wp2_with fail
      refine (natLsh_any _ _ vs xs s _ (HV.out.ext HE9.out) (HX.out.ext HE9.out) HNX.out hs L hL hlx HSEP.out).mono ?_
      rintro e w8 ⟨ws, g1, g2, g3, v', rfl, g4, g5, g6⟩
      have HD := Lib.hid (show NatD v0 (val xs * 2 ^ s) (L + s / 64 + 1) w v' w8 from ⟨ws, g1, g2, g3, g4, (HE9.out.upd).same g5⟩)
      have HU8 := Lib.hid g5
      clear g1 g2 g4 g5 g6
      go_wp2_with fail
      exact ⟨rfl, HU8.out, HD.out⟩
    · obtain rfl : u0 = _ := hk
      go_wp2_with fail
      exact ⟨rfl, Ext.refl _, rfl⟩
    · obtain rfl : u11 = _ := hk
      go_wp2_with fail
      exact ⟨rfl, Ext.refl _, rfl⟩
  case last =>
    intro w3 he u0 h0 u1 h1 u2 h2 u3 h3 u4 h4 u5 h5 u6 h6 u7 h7 u8 h8 u9 h9 u10 h10 u11 h11 u12 h12
    obtain rfl : u12 = _ := h12
    obtain ⟨ws, g1, g2, g3, g4, g5⟩ := h10
    clear h0 h1 h2 h3 h4 h5 h6 h7 h8 h9 h11
    have hp1 := g5.heap HP.out HNP.out
    have hq1 := g5.heap HQ.out HNQ.out
    obtain ⟨a', c', rfl⟩ := g4.form
    have d0 := blk_cell hp1 0
    have d1 := blk_cell hp1 1
    have f0 := blk_free hp1 0
    have f1 := blk_free hp1 1
    simp at d0 d1
    have hcq : ∀ v, (w3.setCell ⟨p, 1, none⟩ v).cell? ⟨q, 0, none⟩ = some (.bool nx) := fun v => by
      have hc : w3.cell? ⟨q, 0, none⟩ = some (.bool nx) := by rw [blk_cell hq1]; rfl
      rw [World.cell?_setCell_other _ _ _ _ (by simp)]; exact hc
    have hlen : ws.length ≤ 9223372036854775807 := by omega
    have HP1 := Lib.hid hp1
    have HO := Lib.hid g4
    have HG1 := Lib.hid g1
    have HG2 := Lib.hid g2
    have HG5 := Lib.hid g5
    clear hp1 hq1 g1 g2 g4 g5 he
    simp only [LastD, Act.put, List.setIfInBounds_toArray, List.set_cons_succ, List.set_cons_zero]
    go_wp2_with fail
    go_ret
    obtain ⟨i1, i2⟩ := intAt_store (n := nx) HP1.out HO.out
    exact ⟨rfl, ws, i1, HG1.out, HG2.out, g3, (HG5.out.trans i2).mono (fun k hk q => q.elim .inr .inl)⟩

end Go.Proofs.Ytdfknmplpjmemaa
