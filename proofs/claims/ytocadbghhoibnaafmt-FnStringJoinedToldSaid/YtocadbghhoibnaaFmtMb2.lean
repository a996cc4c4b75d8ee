/- Base texts of the seat, merged: IntAdd, Three, ImplAS, AddZ, NatLsh. -/
import Derived.Test.YtocadbghhoibnaaFmtMb1
import Derived.Test.YtocadbghhoibnaaFmtMa5
import Derived.Deep.RegionHeld3
import Derived.Test.YtocadbghhoibnaaFmtMa6
import Derived.Test.YtocadbghhoibnaaFmtMa2
import Derived.Laws.CopyRow
import Derived.IntWalk
set_option linter.unusedSimpArgs false
set_option linter.unusedVariables false

/- (*Int).Add, (*Int).Sub: contracts (printed by genint.py). -/
namespace Go.Proofs.YtocadbghhoibnaaFmt
open Go.RowKit

/-- What a sum leaves: the Int at p has the words of value t and the sign neg. -/
def SumR (p : Nat) (v0 : Value) (t L : Nat) (neg : Bool) (w : World) (e : Ending) (w' : World) : Prop :=
  e = .returned (.pointer (some ⟨p, 0, none⟩)) ∧ ∃ ws, IntAt w' 0 p (decide (0 < ws.length) && neg) ws ∧ norm ws = ws ∧ val ws = t ∧ ws.length ≤ L ∧ Upd (fun k => k = p ∨ v0.ownBlock = some k) w w'

set_option maxRecDepth 100000 in
set_option maxHeartbeats 2000000 in
theorem intAdd_A (p q r : Nat) (n0 nx ny : Bool) (v0 sx sy : Value) (vs xs ys : List Nat) (L : Nat) (w : World) (hp : w.heap[p]? = some (.cells #[.bool n0, v0] 82 (0, 0))) (hq : w.heap[q]? = some (.cells #[.bool nx, sx] 82 (0, 0))) (hr : w.heap[r]? = some (.cells #[.bool ny, sy] 82 (0, 0))) (hv : Own .u64 w 0 93 v0 vs) (hx : Own .u64 w 0 93 sx xs) (hy : Own .u64 w 0 93 sy ys) (hnx : norm xs = xs) (hny : norm ys = ys) (hL : L ≤ 17592186044416) (hlx : xs.length ≤ L) (hly : ys.length ≤ L) (ht : nx = ny) :
    Calls Tryf.prog 73 #[.pointer (some ⟨p, 0, none⟩), .pointer (some ⟨q, 0, none⟩), .pointer (some ⟨r, 0, none⟩)] w (SumR p v0 (val xs + val ys) (L + 1) (nx) w) := by
  have hnp := hv.not hp (by decide)
  have hnq := hv.not hq (by decide)
  have hnr := hv.not hr (by decide)
  have hcq := blk_cell hq 0
  have hcr := blk_cell hr 0
  simp at hcq hcr
  have htest : (nx == ny) = true := by cases nx <;> cases ny <;> simp at ht ⊢
  obtain ⟨a0, c0, rfl⟩ := hv.form
  obtain ⟨ax, cx, rfl⟩ := hx.form
  obtain ⟨ay, cy, rfl⟩ := hy.form
  generalize hv0 : Value.slice a0 vs.length c0 = v0 at *
  generalize hsx : Value.slice ax xs.length cx = sx at *
  generalize hsy : Value.slice ay ys.length cy = sy at *
  have HP0 := Lib.hid hp
  have HQ0 := Lib.hid hq
  have HR0 := Lib.hid hr
  have HV0 := Lib.hid hv
  have HX0 := Lib.hid hx
  have HY0 := Lib.hid hy
  have HNX := Lib.hid hnx
  have HNY := Lib.hid hny
  have HNP := Lib.hid hnp
  have HNQ := Lib.hid hnq
  have HNR := Lib.hid hnr
  have HFX := Lib.hid hsx
  have HFY := Lib.hid hsy
  have HFV := Lib.hid hv0
  clear hp hq hr hv hx hy hnx hny hnp hnq hnr ht hsx hsy hv0
  go_enter Tryf.func73, Tryf.ntmps73
  go_wp2_with fail
  go_quiet (fail)
  have hE0 : Ext w (w.drewN nq) := Ext.drewN w nq
  clear hcq hcr
  generalize w.drewN nq = w1 at *
  have HE0 := Lib.hid hE0
  clear hE0
  go_wp2_with fail
  have HP := Lib.hid (HE0.out.block HP0.out)
  have HQ := Lib.hid (HE0.out.block HQ0.out)
  have HR := Lib.hid (HE0.out.block HR0.out)
  have HUW : Hid (Upd (fun k => v0.ownBlock = some k) w w1) := Lib.hid HE0.out.upd
  refine wp_region_H preExt (preUpd (fun k => v0.ownBlock = some k)) (fun _ _ h => h.upd) 13 mixed [Is (.pointer (some ⟨p, 0, none⟩)), Is (.pointer (some ⟨p, 0, none⟩)), Is (.pointer (some ⟨p, 0, none⟩)), Is (.pointer (some ⟨p, 1, none⟩)), Is v0, Is (.pointer (some ⟨q, 0, none⟩)), Is (.pointer (some ⟨q, 0, none⟩)), Is (.pointer (some ⟨q, 1, none⟩)), Is sx, Is (.pointer (some ⟨r, 0, none⟩)), Is (.pointer (some ⟨r, 0, none⟩)), Is (.pointer (some ⟨r, 1, none⟩)), Is sy, NatD v0 (val xs + val ys) (L + 1) w1, Is (.pointer (some ⟨p, 0, none⟩)), Is (.pointer (some ⟨p, 1, none⟩))] (by kernel_rfl) ?mono ?monoU rfl ?steps ?last
  case mono =>
    simp only [List.forall_mem_cons, List.not_mem_nil, false_implies, implies_true, and_true]
    refine ⟨?_, ?_, ?_, ?_, ?_, ?_, ?_, ?_, ?_, ?_, ?_, ?_, ?_, ?_, ?_, ?_⟩
    all_goals first | exact fun _ _ _ _ q => q | exact fun _ _ _ he q => q.ext he
  case monoU =>
    intro j hj
    match j, hj with
    | 0, _ => exact fun _ _ _ _ q => q
    | 1, _ => exact fun _ _ _ _ q => q
    | 2, _ => exact fun _ _ _ _ q => q
    | 3, _ => exact fun _ _ _ _ q => q
    | 4, _ => exact fun _ _ _ _ q => q
    | 5, _ => exact fun _ _ _ _ q => q
    | 6, _ => exact fun _ _ _ _ q => q
    | 7, _ => exact fun _ _ _ _ q => q
    | 8, _ => exact fun _ _ _ _ q => q
    | 9, _ => exact fun _ _ _ _ q => q
    | 10, _ => exact fun _ _ _ _ q => q
    | 11, _ => exact fun _ _ _ _ q => q
    | 12, _ => exact fun _ _ _ _ q => q
    | 13, h => exact absurd rfl h
    | 14, _ => exact fun _ _ _ _ q => q
    | 15, _ => exact fun _ _ _ _ q => q
    | j + 16, _ => exact fun _ _ _ _ q => trivial
  case steps =>
    refine ⟨?_, ?_, ?_, ?_, ?_, ?_, ?_, ?_, ?_, ?_, ?_, ?_, ?_, ?_, ?_, ?_, trivial⟩
    all_goals
      intro u0 u1 u2 u3 u4 u5 u6 u7 u8 u9 u10 u11 u12 u13 u14 u15 u16 w9 he hk
      simp [KnownD, Oper.looksAt, Op.operands, Call.operands, List.findIdx?_cons, Act.put] at hk
      simp only [Act.put, List.setIfInBounds_toArray, List.set_cons_succ, List.set_cons_zero]
    · go_wp2_with fail
      exact ⟨rfl, Ext.refl _, rfl⟩
    · go_wp2_with fail
      exact ⟨rfl, Ext.refl _, rfl⟩
    · obtain rfl : u1 = _ := hk
      go_wp2_with fail
      exact ⟨rfl, Ext.refl _, rfl⟩
    · obtain rfl : u2 = _ := hk
      go_wp2_with fail
      exact ⟨rfl, Ext.refl _, rfl⟩
    · obtain rfl : u3 = _ := hk
      have he' : Upd (fun k => v0.ownBlock = some k) w1 w9 := he
      have hc : w9.cell? ⟨p, 1, none⟩ = some v0 := by rw [blk_cell (he'.heap HP.out HNP.out)]; rfl
      go_wp2_with fail
      exact ⟨rfl, Ext.refl _, rfl⟩
    · go_wp2_with fail
      exact ⟨rfl, Ext.refl _, rfl⟩
    · obtain rfl : u5 = _ := hk
      go_wp2_with fail
      exact ⟨rfl, Ext.refl _, rfl⟩
    · obtain rfl : u6 = _ := hk
      go_wp2_with fail
      exact ⟨rfl, Ext.refl _, rfl⟩
    · obtain rfl : u7 = _ := hk
      have he' : Upd (fun k => v0.ownBlock = some k) w1 w9 := he
      have hc : w9.cell? ⟨q, 1, none⟩ = some sx := by rw [blk_cell (he'.heap HQ.out HNQ.out)]; rfl
      go_wp2_with fail
      exact ⟨rfl, Ext.refl _, rfl⟩
    · go_wp2_with fail
      exact ⟨rfl, Ext.refl _, rfl⟩
    · obtain rfl : u9 = _ := hk
      go_wp2_with fail
      exact ⟨rfl, Ext.refl _, rfl⟩
    · obtain rfl : u10 = _ := hk
      go_wp2_with fail
      exact ⟨rfl, Ext.refl _, rfl⟩
    · obtain rfl : u11 = _ := hk
      have he' : Upd (fun k => v0.ownBlock = some k) w1 w9 := he
      have hc : w9.cell? ⟨r, 1, none⟩ = some sy := by rw [blk_cell (he'.heap HR.out HNR.out)]; rfl
      go_wp2_with fail
      exact ⟨rfl, Ext.refl _, rfl⟩
    · obtain ⟨k0, k1, k2⟩ := hk
      have e0 : u4 = v0 := k0
      have e1 : u8 = sx := k1
      have e2 : u12 = sy := k2
      clear k0 k1 k2
      subst u4 u8 u12
      have he' : Ext w1 w9 := he
      have HE9 := Lib.hid he'
      clear he he'
      go_wp2_with fail
      refine (natAdd_any _ _ _ vs xs ys _ (HV0.out.ext (HE0.out.trans HE9.out)) (HX0.out.ext (HE0.out.trans HE9.out)) (HY0.out.ext (HE0.out.trans HE9.out)) HNX.out HNY.out L hL hlx hly).mono ?_
      rintro e w8 ⟨ws, g1, g2, g3, v', rfl, g4, g5, g6⟩
      have HD := Lib.hid (show NatD v0 (val xs + val ys) (L + 1) w1 v' w8 from ⟨ws, g1, g2, g3, g4, (HE9.out.upd).same g5⟩)
      have HU8 := Lib.hid g5
      clear g1 g2 g4 g5 g6
      go_wp2_with fail
      exact ⟨rfl, HU8.out, HD.out⟩
    · obtain rfl : u0 = _ := hk
      go_wp2_with fail
      exact ⟨rfl, Ext.refl _, rfl⟩
    · obtain rfl : u14 = _ := hk
      go_wp2_with fail
      exact ⟨rfl, Ext.refl _, rfl⟩
  case last =>
    intro w3 he u0 h0 u1 h1 u2 h2 u3 h3 u4 h4 u5 h5 u6 h6 u7 h7 u8 h8 u9 h9 u10 h10 u11 h11 u12 h12 u13 h13 u14 h14 u15 h15
    obtain rfl : u15 = _ := h15
    obtain ⟨ws, g1, g2, g3, g4, g5⟩ := h13
    clear h0 h1 h2 h3 h4 h5 h6 h7 h8 h9 h10 h11 h12 h14
    have hp1 := g5.heap HP.out HNP.out
    obtain ⟨a', c', rfl⟩ := g4.form
    have d0 := blk_cell hp1 0
    have d1 := blk_cell hp1 1
    have f0 := blk_free hp1 0
    have f1 := blk_free hp1 1
    simp at d0 d1
    have hlen : ws.length ≤ 9223372036854775807 := by omega
    have HP1 := Lib.hid hp1
    have HO := Lib.hid g4
    have HG1 := Lib.hid g1
    have HG2 := Lib.hid g2
    have HG5 := Lib.hid (HUW.out.same g5)
    clear hp1 g1 g2 g4 g5 he
    simp only [LastD, Act.put, List.setIfInBounds_toArray, List.set_cons_succ, List.set_cons_zero]
    by_cases hpos : 0 < ws.length
    · go_wp2_with fail
      go_ret
      obtain ⟨i1, i2⟩ := intAt_store (n := nx) HP1.out HO.out
      refine ⟨rfl, ws, ?_, HG1.out, HG2.out, g3, (HG5.out.trans i2).mono (fun k hk q => q.elim .inr .inl)⟩
      rw [show (decide (0 < ws.length) && nx) = nx by simp [hpos]]
      exact i1
    · have hd : decide ((0 : Int) < (ws.length : Int)) = false := decide_eq_false (by omega)
      go_wp2_with fail
      go_ret
      obtain ⟨i1, i2⟩ := intAt_store (n := false) HP1.out HO.out
      refine ⟨rfl, ws, ?_, HG1.out, HG2.out, g3, (HG5.out.trans i2).mono (fun k hk q => q.elim .inr .inl)⟩
      rw [show (decide (0 < ws.length) && nx) = false by simp [hpos]]
      exact i1

set_option maxRecDepth 100000 in
set_option maxHeartbeats 2000000 in
theorem intAdd_B (p q r : Nat) (n0 nx ny : Bool) (v0 sx sy : Value) (vs xs ys : List Nat) (L : Nat) (w : World) (hp : w.heap[p]? = some (.cells #[.bool n0, v0] 82 (0, 0))) (hq : w.heap[q]? = some (.cells #[.bool nx, sx] 82 (0, 0))) (hr : w.heap[r]? = some (.cells #[.bool ny, sy] 82 (0, 0))) (hv : Own .u64 w 0 93 v0 vs) (hx : Own .u64 w 0 93 sx xs) (hy : Own .u64 w 0 93 sy ys) (hnx : norm xs = xs) (hny : norm ys = ys) (hL : L ≤ 17592186044416) (hlx : xs.length ≤ L) (hly : ys.length ≤ L) (ht : nx ≠ ny) (hcmp : val ys ≤ val xs) :
    Calls Tryf.prog 73 #[.pointer (some ⟨p, 0, none⟩), .pointer (some ⟨q, 0, none⟩), .pointer (some ⟨r, 0, none⟩)] w (SumR p v0 (val xs - val ys) L (nx) w) := by
  have hnp := hv.not hp (by decide)
  have hnq := hv.not hq (by decide)
  have hnr := hv.not hr (by decide)
  have hcq := blk_cell hq 0
  have hcr := blk_cell hr 0
  simp at hcq hcr
  have htest : (nx == ny) = false := by cases nx <;> cases ny <;> simp at ht ⊢
  obtain ⟨a0, c0, rfl⟩ := hv.form
  obtain ⟨ax, cx, rfl⟩ := hx.form
  obtain ⟨ay, cy, rfl⟩ := hy.form
  generalize hv0 : Value.slice a0 vs.length c0 = v0 at *
  generalize hsx : Value.slice ax xs.length cx = sx at *
  generalize hsy : Value.slice ay ys.length cy = sy at *
  have HP0 := Lib.hid hp
  have HQ0 := Lib.hid hq
  have HR0 := Lib.hid hr
  have HV0 := Lib.hid hv
  have HX0 := Lib.hid hx
  have HY0 := Lib.hid hy
  have HNX := Lib.hid hnx
  have HNY := Lib.hid hny
  have HNP := Lib.hid hnp
  have HNQ := Lib.hid hnq
  have HNR := Lib.hid hnr
  have HFX := Lib.hid hsx
  have HFY := Lib.hid hsy
  have HFV := Lib.hid hv0
  clear hp hq hr hv hx hy hnx hny hnp hnq hnr ht hsx hsy hv0
  go_enter Tryf.func73, Tryf.ntmps73
  go_wp2_with fail
  go_quiet (fail)
  have hE0 : Ext w (w.drewN nq) := Ext.drewN w nq
  clear hcq hcr
  generalize w.drewN nq = w1 at *
  have HE0 := Lib.hid hE0
  clear hE0
  go_wp2_with fail
  obtain ⟨cc, hcc, hcd⟩ : ∃ cc : Int, cmpW xs ys = cc ∧ decide (0 ≤ cc) = true := ⟨_, rfl, by rcases Nat.lt_or_ge (val ys) (val xs) with h | h; rw [cmpW_gt h]; rfl; rw [cmpW_eq (by omega)]; rfl⟩
  have HCC := Lib.hid hcc
  clear hcc
  refine wp_region_D preExt mixed [Is (.pointer (some ⟨q, 0, none⟩)), Is (.pointer (some ⟨q, 0, none⟩)), Is (.pointer (some ⟨q, 1, none⟩)), Is sx, Is (.pointer (some ⟨r, 0, none⟩)), Is (.pointer (some ⟨r, 0, none⟩)), Is (.pointer (some ⟨r, 1, none⟩)), Is sy, Is (.int .i64 cc)] (by kernel_rfl) ?mono rfl ?steps ?last
  case mono =>
    simp only [List.forall_mem_cons, List.not_mem_nil, false_implies, implies_true, and_true]
    refine ⟨?_, ?_, ?_, ?_, ?_, ?_, ?_, ?_, ?_⟩
    all_goals exact fun _ _ _ _ q => q
  case steps =>
    refine ⟨?_, ?_, ?_, ?_, ?_, ?_, ?_, ?_, ?_, trivial⟩
    all_goals
      intro u0 u1 u2 u3 u4 u5 u6 u7 u8 u9 w9 he hk
      simp [KnownD, Oper.looksAt, Op.operands, Call.operands, List.findIdx?_cons, Act.put] at hk
      simp only [Act.put, List.setIfInBounds_toArray, List.set_cons_succ, List.set_cons_zero]
    · go_wp2_with fail
      exact ⟨rfl, Ext.refl _, rfl⟩
    · obtain rfl : u0 = _ := hk
      go_wp2_with fail
      exact ⟨rfl, Ext.refl _, rfl⟩
    · obtain rfl : u1 = _ := hk
      go_wp2_with fail
      exact ⟨rfl, Ext.refl _, rfl⟩
    · obtain rfl : u2 = _ := hk
      have hc : w9.cell? ⟨q, 1, none⟩ = some sx := by rw [blk_cell (he.block (HE0.out.block HQ0.out))]; rfl
      go_wp2_with fail
      exact ⟨rfl, Ext.refl _, rfl⟩
    · go_wp2_with fail
      exact ⟨rfl, Ext.refl _, rfl⟩
    · obtain rfl : u4 = _ := hk
      go_wp2_with fail
      exact ⟨rfl, Ext.refl _, rfl⟩
    · obtain rfl : u5 = _ := hk
      go_wp2_with fail
      exact ⟨rfl, Ext.refl _, rfl⟩
    · obtain rfl : u6 = _ := hk
      have hc : w9.cell? ⟨r, 1, none⟩ = some sy := by rw [blk_cell (he.block (HE0.out.block HR0.out))]; rfl
      go_wp2_with fail
      exact ⟨rfl, Ext.refl _, rfl⟩
    · obtain ⟨k0, k1⟩ := hk
      have e0 : u3 = sx := k0
      have e1 : u7 = sy := k1
      clear k0 k1
      subst u3 u7
      have HE9 := Lib.hid he
      clear he
      go_wp2_with fail
      refine (cmp_own 0 0 _ _ xs ys _ (HX0.out.ext (HE0.out.trans HE9.out)) (HY0.out.ext (HE0.out.trans HE9.out)) HNX.out HNY.out (by omega) (by omega)).mono ?_
      rw [HCC.out]
      rintro e w8 ⟨he8, rfl⟩
      go_wp2_with fail
      exact ⟨rfl, he8, rfl⟩
  case last =>
    intro w2 he u0 h0 u1 h1 u2 h2 u3 h3 u4 h4 u5 h5 u6 h6 u7 h7 u8 h8
    obtain rfl : u8 = _ := h8
    clear h0 h1 h2 h3 h4 h5 h6 h7
    replace HE0 := Lib.hid (HE0.out.trans he)
    clear he
    have HP := Lib.hid (HE0.out.block HP0.out)
    have HQ := Lib.hid (HE0.out.block HQ0.out)
    have HR := Lib.hid (HE0.out.block HR0.out)
    have HUW : Hid (Upd (fun k => v0.ownBlock = some k) w w2) := Lib.hid HE0.out.upd
    simp only [LastD, Act.put, List.setIfInBounds_toArray, List.set_cons_succ, List.set_cons_zero]
    go_wp2_with fail
    refine wp_region_H preExt (preUpd (fun k => v0.ownBlock = some k)) (fun _ _ h => h.upd) 13 mixed [Is (.pointer (some ⟨p, 0, none⟩)), Is (.pointer (some ⟨p, 0, none⟩)), Is (.pointer (some ⟨p, 0, none⟩)), Is (.pointer (some ⟨p, 1, none⟩)), Is v0, Is (.pointer (some ⟨q, 0, none⟩)), Is (.pointer (some ⟨q, 0, none⟩)), Is (.pointer (some ⟨q, 1, none⟩)), Is sx, Is (.pointer (some ⟨r, 0, none⟩)), Is (.pointer (some ⟨r, 0, none⟩)), Is (.pointer (some ⟨r, 1, none⟩)), Is sy, NatD v0 (val xs - val ys) L w2, Is (.pointer (some ⟨p, 0, none⟩)), Is (.pointer (some ⟨p, 1, none⟩))] (by kernel_rfl) ?mono ?monoU rfl ?steps ?last
    case mono =>
      simp only [List.forall_mem_cons, List.not_mem_nil, false_implies, implies_true, and_true]
      refine ⟨?_, ?_, ?_, ?_, ?_, ?_, ?_, ?_, ?_, ?_, ?_, ?_, ?_, ?_, ?_, ?_⟩
      all_goals first | exact fun _ _ _ _ q => q | exact fun _ _ _ he q => q.ext he
    case monoU =>
      intro j hj
      match j, hj with
      | 0, _ => exact fun _ _ _ _ q => q
      | 1, _ => exact fun _ _ _ _ q => q
      | 2, _ => exact fun _ _ _ _ q => q
      | 3, _ => exact fun _ _ _ _ q => q
      | 4, _ => exact fun _ _ _ _ q => q
      | 5, _ => exact fun _ _ _ _ q => q
      | 6, _ => exact fun _ _ _ _ q => q
      | 7, _ => exact fun _ _ _ _ q => q
      | 8, _ => exact fun _ _ _ _ q => q
      | 9, _ => exact fun _ _ _ _ q => q
      | 10, _ => exact fun _ _ _ _ q => q
      | 11, _ => exact fun _ _ _ _ q => q
      | 12, _ => exact fun _ _ _ _ q => q
      | 13, h => exact absurd rfl h
      | 14, _ => exact fun _ _ _ _ q => q
      | 15, _ => exact fun _ _ _ _ q => q
      | j + 16, _ => exact fun _ _ _ _ q => trivial
    case steps =>
      refine ⟨?_, ?_, ?_, ?_, ?_, ?_, ?_, ?_, ?_, ?_, ?_, ?_, ?_, ?_, ?_, ?_, trivial⟩
      all_goals
        intro u0 u1 u2 u3 u4 u5 u6 u7 u8 u9 u10 u11 u12 u13 u14 u15 u16 w9 he hk
        simp [KnownD, Oper.looksAt, Op.operands, Call.operands, List.findIdx?_cons, Act.put] at hk
        simp only [Act.put, List.setIfInBounds_toArray, List.set_cons_succ, List.set_cons_zero]
      · go_wp2_with fail
        exact ⟨rfl, Ext.refl _, rfl⟩
      · go_wp2_with fail
        exact ⟨rfl, Ext.refl _, rfl⟩
      · obtain rfl : u1 = _ := hk
        go_wp2_with fail
        exact ⟨rfl, Ext.refl _, rfl⟩
      · obtain rfl : u2 = _ := hk
        go_wp2_with fail
        exact ⟨rfl, Ext.refl _, rfl⟩
      · obtain rfl : u3 = _ := hk
        have he' : Upd (fun k => v0.ownBlock = some k) w2 w9 := he
        have hc : w9.cell? ⟨p, 1, none⟩ = some v0 := by rw [blk_cell (he'.heap HP.out HNP.out)]; rfl
        go_wp2_with fail
        exact ⟨rfl, Ext.refl _, rfl⟩
      · go_wp2_with fail
        exact ⟨rfl, Ext.refl _, rfl⟩
      · obtain rfl : u5 = _ := hk
        go_wp2_with fail
        exact ⟨rfl, Ext.refl _, rfl⟩
      · obtain rfl : u6 = _ := hk
        go_wp2_with fail
        exact ⟨rfl, Ext.refl _, rfl⟩
      · obtain rfl : u7 = _ := hk
        have he' : Upd (fun k => v0.ownBlock = some k) w2 w9 := he
        have hc : w9.cell? ⟨q, 1, none⟩ = some sx := by rw [blk_cell (he'.heap HQ.out HNQ.out)]; rfl
        go_wp2_with fail
        exact ⟨rfl, Ext.refl _, rfl⟩
      · go_wp2_with fail
        exact ⟨rfl, Ext.refl _, rfl⟩
      · obtain rfl : u9 = _ := hk
        go_wp2_with fail
        exact ⟨rfl, Ext.refl _, rfl⟩
      · obtain rfl : u10 = _ := hk
        go_wp2_with fail
        exact ⟨rfl, Ext.refl _, rfl⟩
      · obtain rfl : u11 = _ := hk
        have he' : Upd (fun k => v0.ownBlock = some k) w2 w9 := he
        have hc : w9.cell? ⟨r, 1, none⟩ = some sy := by rw [blk_cell (he'.heap HR.out HNR.out)]; rfl
        go_wp2_with fail
        exact ⟨rfl, Ext.refl _, rfl⟩
      · obtain ⟨k0, k1, k2⟩ := hk
        have e0 : u4 = v0 := k0
        have e1 : u8 = sx := k1
        have e2 : u12 = sy := k2
        clear k0 k1 k2
        subst u4 u8 u12
        have he' : Ext w2 w9 := he
        have HE9 := Lib.hid he'
        clear he he'
        go_wp2_with fail
        refine (natSub_any _ _ _ vs xs ys _ (HV0.out.ext (HE0.out.trans HE9.out)) (HX0.out.ext (HE0.out.trans HE9.out)) (HY0.out.ext (HE0.out.trans HE9.out)) HNX.out HNY.out L hL hlx hcmp).mono ?_
        rintro e w8 ⟨ws, g1, g2, g3, v', rfl, g4, g5, g6⟩
        have HD := Lib.hid (show NatD v0 (val xs - val ys) L w2 v' w8 from ⟨ws, g1, g2, g3, g4, (HE9.out.upd).same g5⟩)
        have HU8 := Lib.hid g5
        clear g1 g2 g4 g5 g6
        go_wp2_with fail
        exact ⟨rfl, HU8.out, HD.out⟩
      · obtain rfl : u0 = _ := hk
        go_wp2_with fail
        exact ⟨rfl, Ext.refl _, rfl⟩
      · obtain rfl : u14 = _ := hk
        go_wp2_with fail
        exact ⟨rfl, Ext.refl _, rfl⟩
    case last =>
      intro w3 he u0 h0 u1 h1 u2 h2 u3 h3 u4 h4 u5 h5 u6 h6 u7 h7 u8 h8 u9 h9 u10 h10 u11 h11 u12 h12 u13 h13 u14 h14 u15 h15
      obtain rfl : u15 = _ := h15
      obtain ⟨ws, g1, g2, g3, g4, g5⟩ := h13
      clear h0 h1 h2 h3 h4 h5 h6 h7 h8 h9 h10 h11 h12 h14
      have hp1 := g5.heap HP.out HNP.out
      obtain ⟨a', c', rfl⟩ := g4.form
      have d0 := blk_cell hp1 0
      have d1 := blk_cell hp1 1
      have f0 := blk_free hp1 0
      have f1 := blk_free hp1 1
      simp at d0 d1
      have hlen : ws.length ≤ 9223372036854775807 := by omega
      have HP1 := Lib.hid hp1
      have HO := Lib.hid g4
      have HG1 := Lib.hid g1
      have HG2 := Lib.hid g2
      have HG5 := Lib.hid (HUW.out.same g5)
      clear hp1 g1 g2 g4 g5 he
      simp only [LastD, Act.put, List.setIfInBounds_toArray, List.set_cons_succ, List.set_cons_zero]
      by_cases hpos : 0 < ws.length
      · go_wp2_with fail
        go_ret
        obtain ⟨i1, i2⟩ := intAt_store (n := nx) HP1.out HO.out
        refine ⟨rfl, ws, ?_, HG1.out, HG2.out, g3, (HG5.out.trans i2).mono (fun k hk q => q.elim .inr .inl)⟩
        rw [show (decide (0 < ws.length) && nx) = nx by simp [hpos]]
        exact i1
      · have hd : decide ((0 : Int) < (ws.length : Int)) = false := decide_eq_false (by omega)
        go_wp2_with fail
        go_ret
        obtain ⟨i1, i2⟩ := intAt_store (n := false) HP1.out HO.out
        refine ⟨rfl, ws, ?_, HG1.out, HG2.out, g3, (HG5.out.trans i2).mono (fun k hk q => q.elim .inr .inl)⟩
        rw [show (decide (0 < ws.length) && nx) = false by simp [hpos]]
        exact i1

set_option maxRecDepth 100000 in
set_option maxHeartbeats 2000000 in
theorem intAdd_C (p q r : Nat) (n0 nx ny : Bool) (v0 sx sy : Value) (vs xs ys : List Nat) (L : Nat) (w : World) (hp : w.heap[p]? = some (.cells #[.bool n0, v0] 82 (0, 0))) (hq : w.heap[q]? = some (.cells #[.bool nx, sx] 82 (0, 0))) (hr : w.heap[r]? = some (.cells #[.bool ny, sy] 82 (0, 0))) (hv : Own .u64 w 0 93 v0 vs) (hx : Own .u64 w 0 93 sx xs) (hy : Own .u64 w 0 93 sy ys) (hnx : norm xs = xs) (hny : norm ys = ys) (hL : L ≤ 17592186044416) (hlx : xs.length ≤ L) (hly : ys.length ≤ L) (ht : nx ≠ ny) (hcmp : val xs < val ys) :
    Calls Tryf.prog 73 #[.pointer (some ⟨p, 0, none⟩), .pointer (some ⟨q, 0, none⟩), .pointer (some ⟨r, 0, none⟩)] w (SumR p v0 (val ys - val xs) L (!nx) w) := by
  have hnp := hv.not hp (by decide)
  have hnq := hv.not hq (by decide)
  have hnr := hv.not hr (by decide)
  have hcq := blk_cell hq 0
  have hcr := blk_cell hr 0
  simp at hcq hcr
  have htest : (nx == ny) = false := by cases nx <;> cases ny <;> simp at ht ⊢
  obtain ⟨a0, c0, rfl⟩ := hv.form
  obtain ⟨ax, cx, rfl⟩ := hx.form
  obtain ⟨ay, cy, rfl⟩ := hy.form
  generalize hv0 : Value.slice a0 vs.length c0 = v0 at *
  generalize hsx : Value.slice ax xs.length cx = sx at *
  generalize hsy : Value.slice ay ys.length cy = sy at *
  have HP0 := Lib.hid hp
  have HQ0 := Lib.hid hq
  have HR0 := Lib.hid hr
  have HV0 := Lib.hid hv
  have HX0 := Lib.hid hx
  have HY0 := Lib.hid hy
  have HNX := Lib.hid hnx
  have HNY := Lib.hid hny
  have HNP := Lib.hid hnp
  have HNQ := Lib.hid hnq
  have HNR := Lib.hid hnr
  have HFX := Lib.hid hsx
  have HFY := Lib.hid hsy
  have HFV := Lib.hid hv0
  clear hp hq hr hv hx hy hnx hny hnp hnq hnr ht hsx hsy hv0
  go_enter Tryf.func73, Tryf.ntmps73
  go_wp2_with fail
  go_quiet (fail)
  have hE0 : Ext w (w.drewN nq) := Ext.drewN w nq
  clear hcq hcr
  generalize w.drewN nq = w1 at *
  have HE0 := Lib.hid hE0
  clear hE0
  go_wp2_with fail
  obtain ⟨cc, hcc, hcd⟩ : ∃ cc : Int, cmpW xs ys = cc ∧ decide (0 ≤ cc) = false := ⟨_, rfl, by rw [cmpW_lt hcmp]; rfl⟩
  have HCC := Lib.hid hcc
  clear hcc
  refine wp_region_D preExt mixed [Is (.pointer (some ⟨q, 0, none⟩)), Is (.pointer (some ⟨q, 0, none⟩)), Is (.pointer (some ⟨q, 1, none⟩)), Is sx, Is (.pointer (some ⟨r, 0, none⟩)), Is (.pointer (some ⟨r, 0, none⟩)), Is (.pointer (some ⟨r, 1, none⟩)), Is sy, Is (.int .i64 cc)] (by kernel_rfl) ?mono rfl ?steps ?last
  case mono =>
    simp only [List.forall_mem_cons, List.not_mem_nil, false_implies, implies_true, and_true]
    refine ⟨?_, ?_, ?_, ?_, ?_, ?_, ?_, ?_, ?_⟩
    all_goals exact fun _ _ _ _ q => q
  case steps =>
    refine ⟨?_, ?_, ?_, ?_, ?_, ?_, ?_, ?_, ?_, trivial⟩
    all_goals
      intro u0 u1 u2 u3 u4 u5 u6 u7 u8 u9 w9 he hk
      simp [KnownD, Oper.looksAt, Op.operands, Call.operands, List.findIdx?_cons, Act.put] at hk
      simp only [Act.put, List.setIfInBounds_toArray, List.set_cons_succ, List.set_cons_zero]
    · go_wp2_with fail
      exact ⟨rfl, Ext.refl _, rfl⟩
    · obtain rfl : u0 = _ := hk
      go_wp2_with fail
      exact ⟨rfl, Ext.refl _, rfl⟩
    · obtain rfl : u1 = _ := hk
      go_wp2_with fail
      exact ⟨rfl, Ext.refl _, rfl⟩
    · obtain rfl : u2 = _ := hk
      have hc : w9.cell? ⟨q, 1, none⟩ = some sx := by rw [blk_cell (he.block (HE0.out.block HQ0.out))]; rfl
      go_wp2_with fail
      exact ⟨rfl, Ext.refl _, rfl⟩
    · go_wp2_with fail
      exact ⟨rfl, Ext.refl _, rfl⟩
    · obtain rfl : u4 = _ := hk
      go_wp2_with fail
      exact ⟨rfl, Ext.refl _, rfl⟩
    · obtain rfl : u5 = _ := hk
      go_wp2_with fail
      exact ⟨rfl, Ext.refl _, rfl⟩
    · obtain rfl : u6 = _ := hk
      have hc : w9.cell? ⟨r, 1, none⟩ = some sy := by rw [blk_cell (he.block (HE0.out.block HR0.out))]; rfl
      go_wp2_with fail
      exact ⟨rfl, Ext.refl _, rfl⟩
    · obtain ⟨k0, k1⟩ := hk
      have e0 : u3 = sx := k0
      have e1 : u7 = sy := k1
      clear k0 k1
      subst u3 u7
      have HE9 := Lib.hid he
      clear he
      go_wp2_with fail
      refine (cmp_own 0 0 _ _ xs ys _ (HX0.out.ext (HE0.out.trans HE9.out)) (HY0.out.ext (HE0.out.trans HE9.out)) HNX.out HNY.out (by omega) (by omega)).mono ?_
      rw [HCC.out]
      rintro e w8 ⟨he8, rfl⟩
      go_wp2_with fail
      exact ⟨rfl, he8, rfl⟩
  case last =>
    intro w2 he u0 h0 u1 h1 u2 h2 u3 h3 u4 h4 u5 h5 u6 h6 u7 h7 u8 h8
    obtain rfl : u8 = _ := h8
    clear h0 h1 h2 h3 h4 h5 h6 h7
    replace HE0 := Lib.hid (HE0.out.trans he)
    clear he
    have HP := Lib.hid (HE0.out.block HP0.out)
    have HQ := Lib.hid (HE0.out.block HQ0.out)
    have HR := Lib.hid (HE0.out.block HR0.out)
    have HUW : Hid (Upd (fun k => v0.ownBlock = some k) w w2) := Lib.hid HE0.out.upd
    simp only [LastD, Act.put, List.setIfInBounds_toArray, List.set_cons_succ, List.set_cons_zero]
    go_wp2_with fail
    refine wp_region_H preExt (preUpd (fun k => v0.ownBlock = some k)) (fun _ _ h => h.upd) 13 mixed [Is (.pointer (some ⟨p, 0, none⟩)), Is (.pointer (some ⟨p, 0, none⟩)), Is (.pointer (some ⟨p, 0, none⟩)), Is (.pointer (some ⟨p, 1, none⟩)), Is v0, Is (.pointer (some ⟨r, 0, none⟩)), Is (.pointer (some ⟨r, 0, none⟩)), Is (.pointer (some ⟨r, 1, none⟩)), Is sy, Is (.pointer (some ⟨q, 0, none⟩)), Is (.pointer (some ⟨q, 0, none⟩)), Is (.pointer (some ⟨q, 1, none⟩)), Is sx, NatD v0 (val ys - val xs) L w2, Is (.pointer (some ⟨p, 0, none⟩)), Is (.pointer (some ⟨p, 1, none⟩))] (by kernel_rfl) ?mono ?monoU rfl ?steps ?last
    case mono =>
      simp only [List.forall_mem_cons, List.not_mem_nil, false_implies, implies_true, and_true]
      refine ⟨?_, ?_, ?_, ?_, ?_, ?_, ?_, ?_, ?_, ?_, ?_, ?_, ?_, ?_, ?_, ?_⟩
      all_goals first | exact fun _ _ _ _ q => q | exact fun _ _ _ he q => q.ext he
    case monoU =>
      intro j hj
      match j, hj with
      | 0, _ => exact fun _ _ _ _ q => q
      | 1, _ => exact fun _ _ _ _ q => q
      | 2, _ => exact fun _ _ _ _ q => q
      | 3, _ => exact fun _ _ _ _ q => q
      | 4, _ => exact fun _ _ _ _ q => q
      | 5, _ => exact fun _ _ _ _ q => q
      | 6, _ => exact fun _ _ _ _ q => q
      | 7, _ => exact fun _ _ _ _ q => q
      | 8, _ => exact fun _ _ _ _ q => q
      | 9, _ => exact fun _ _ _ _ q => q
      | 10, _ => exact fun _ _ _ _ q => q
      | 11, _ => exact fun _ _ _ _ q => q
      | 12, _ => exact fun _ _ _ _ q => q
      | 13, h => exact absurd rfl h
      | 14, _ => exact fun _ _ _ _ q => q
      | 15, _ => exact fun _ _ _ _ q => q
      | j + 16, _ => exact fun _ _ _ _ q => trivial
    case steps =>
      refine ⟨?_, ?_, ?_, ?_, ?_, ?_, ?_, ?_, ?_, ?_, ?_, ?_, ?_, ?_, ?_, ?_, trivial⟩
      all_goals
        intro u0 u1 u2 u3 u4 u5 u6 u7 u8 u9 u10 u11 u12 u13 u14 u15 u16 w9 he hk
        simp [KnownD, Oper.looksAt, Op.operands, Call.operands, List.findIdx?_cons, Act.put] at hk
        simp only [Act.put, List.setIfInBounds_toArray, List.set_cons_succ, List.set_cons_zero]
      · go_wp2_with fail
        exact ⟨rfl, Ext.refl _, rfl⟩
      · go_wp2_with fail
        exact ⟨rfl, Ext.refl _, rfl⟩
      · obtain rfl : u1 = _ := hk
        go_wp2_with fail
        exact ⟨rfl, Ext.refl _, rfl⟩
      · obtain rfl : u2 = _ := hk
        go_wp2_with fail
        exact ⟨rfl, Ext.refl _, rfl⟩
      · obtain rfl : u3 = _ := hk
        have he' : Upd (fun k => v0.ownBlock = some k) w2 w9 := he
        have hc : w9.cell? ⟨p, 1, none⟩ = some v0 := by rw [blk_cell (he'.heap HP.out HNP.out)]; rfl
        go_wp2_with fail
        exact ⟨rfl, Ext.refl _, rfl⟩
      · go_wp2_with fail
        exact ⟨rfl, Ext.refl _, rfl⟩
      · obtain rfl : u5 = _ := hk
        go_wp2_with fail
        exact ⟨rfl, Ext.refl _, rfl⟩
      · obtain rfl : u6 = _ := hk
        go_wp2_with fail
        exact ⟨rfl, Ext.refl _, rfl⟩
      · obtain rfl : u7 = _ := hk
        have he' : Upd (fun k => v0.ownBlock = some k) w2 w9 := he
        have hc : w9.cell? ⟨r, 1, none⟩ = some sy := by rw [blk_cell (he'.heap HR.out HNR.out)]; rfl
        go_wp2_with fail
        exact ⟨rfl, Ext.refl _, rfl⟩
      · go_wp2_with fail
        exact ⟨rfl, Ext.refl _, rfl⟩
      · obtain rfl : u9 = _ := hk
        go_wp2_with fail
        exact ⟨rfl, Ext.refl _, rfl⟩
      · obtain rfl : u10 = _ := hk
        go_wp2_with fail
        exact ⟨rfl, Ext.refl _, rfl⟩
      · obtain rfl : u11 = _ := hk
        have he' : Upd (fun k => v0.ownBlock = some k) w2 w9 := he
        have hc : w9.cell? ⟨q, 1, none⟩ = some sx := by rw [blk_cell (he'.heap HQ.out HNQ.out)]; rfl
        go_wp2_with fail
        exact ⟨rfl, Ext.refl _, rfl⟩
      · obtain ⟨k0, k1, k2⟩ := hk
        have e0 : u4 = v0 := k0
        have e1 : u8 = sy := k1
        have e2 : u12 = sx := k2
        clear k0 k1 k2
        subst u4 u8 u12
        have he' : Ext w2 w9 := he
        have HE9 := Lib.hid he'
        clear he he'
        go_wp2_with fail
        refine (natSub_any _ _ _ vs ys xs _ (HV0.out.ext (HE0.out.trans HE9.out)) (HY0.out.ext (HE0.out.trans HE9.out)) (HX0.out.ext (HE0.out.trans HE9.out)) HNY.out HNX.out L hL hly (by omega)).mono ?_
        rintro e w8 ⟨ws, g1, g2, g3, v', rfl, g4, g5, g6⟩
        have HD := Lib.hid (show NatD v0 (val ys - val xs) L w2 v' w8 from ⟨ws, g1, g2, g3, g4, (HE9.out.upd).same g5⟩)
        have HU8 := Lib.hid g5
        clear g1 g2 g4 g5 g6
        go_wp2_with fail
        exact ⟨rfl, HU8.out, HD.out⟩
      · obtain rfl : u0 = _ := hk
        go_wp2_with fail
        exact ⟨rfl, Ext.refl _, rfl⟩
      · obtain rfl : u14 = _ := hk
        go_wp2_with fail
        exact ⟨rfl, Ext.refl _, rfl⟩
    case last =>
      intro w3 he u0 h0 u1 h1 u2 h2 u3 h3 u4 h4 u5 h5 u6 h6 u7 h7 u8 h8 u9 h9 u10 h10 u11 h11 u12 h12 u13 h13 u14 h14 u15 h15
      obtain rfl : u15 = _ := h15
      obtain ⟨ws, g1, g2, g3, g4, g5⟩ := h13
      clear h0 h1 h2 h3 h4 h5 h6 h7 h8 h9 h10 h11 h12 h14
      have hp1 := g5.heap HP.out HNP.out
      obtain ⟨a', c', rfl⟩ := g4.form
      have d0 := blk_cell hp1 0
      have d1 := blk_cell hp1 1
      have f0 := blk_free hp1 0
      have f1 := blk_free hp1 1
      simp at d0 d1
      have hlen : ws.length ≤ 9223372036854775807 := by omega
      have HP1 := Lib.hid hp1
      have HO := Lib.hid g4
      have HG1 := Lib.hid g1
      have HG2 := Lib.hid g2
      have HG5 := Lib.hid (HUW.out.same g5)
      clear hp1 g1 g2 g4 g5 he
      simp only [LastD, Act.put, List.setIfInBounds_toArray, List.set_cons_succ, List.set_cons_zero]
      by_cases hpos : 0 < ws.length
      · go_wp2_with fail
        go_ret
        obtain ⟨i1, i2⟩ := intAt_store (n := (!nx)) HP1.out HO.out
        refine ⟨rfl, ws, ?_, HG1.out, HG2.out, g3, (HG5.out.trans i2).mono (fun k hk q => q.elim .inr .inl)⟩
        rw [show (decide (0 < ws.length) && (!nx)) = (!nx) by simp [hpos]]
        exact i1
      · have hd : decide ((0 : Int) < (ws.length : Int)) = false := decide_eq_false (by omega)
        go_wp2_with fail
        go_ret
        obtain ⟨i1, i2⟩ := intAt_store (n := false) HP1.out HO.out
        refine ⟨rfl, ws, ?_, HG1.out, HG2.out, g3, (HG5.out.trans i2).mono (fun k hk q => q.elim .inr .inl)⟩
        rw [show (decide (0 < ws.length) && (!nx)) = false by simp [hpos]]
        exact i1

end Go.Proofs.YtocadbghhoibnaaFmt

/- impl.three, impl.triple: contracts (printed by genthree.py). -/
namespace Go.Proofs.YtocadbghhoibnaaFmt
open Go.RowKit

/-- Whether the receiver is the first operand, the second one, and whether both operands are one. -/
def isX (k : Int) : Bool := decide (k = 1) || decide (k = 3)

def isY (k : Int) : Bool := decide (k = 2) || decide (k = 3)

def isOne (k : Int) : Bool := decide (k = 3) || decide (k = 4)

/-- What the second operand is; what an operand holds behind the call. -/
def secZ (k : Int) (x y : Int) : Int := bif isOne k then x else y

def aftX (k : Int) (new x : Int) : Int := bif isX k then new else x

def aftY (k : Int) (new y : Int) : Int := bif isY k then new else y

theorem sep_old {Lx Lz : Nat} {zx zz : Int} {w1 w2 : World} {B0 r q : Nat} (hx : IntZ Lx zx w1 B0 q) (hB : B0 ≤ q) (he : Ext w1 w2) (hz : IntZ Lz zz w2 w1.heap.size r) (hr : w1.heap.size ≤ r) :
    ∃ n0 v0 vs, w2.heap[q]? = some (.cells #[.bool n0, v0] 82 (0, 0)) ∧ Own .u64 w2 0 93 v0 vs ∧ (∀ w'', Upd (fun k => k = q ∨ v0.ownBlock = some k) w2 w'' → IntZ Lz zz w'' 0 r) ∧ (∀ k, (k = q ∨ v0.ownBlock = some k) → B0 ≤ k) := by
  obtain ⟨nx, sx, vx, hxq, hxo⟩ := hx.blk
  have hql : q < w1.heap.size := (Array.getElem?_eq_some_iff.1 hxq).1
  have hold : ∀ k, (k = q ∨ sx.ownBlock = some k) → B0 ≤ k ∧ k < w1.heap.size := by
    rintro k (rfl | hk)
    · exact ⟨hB, hql⟩
    · exact ⟨(hx.own hxq hk).1, (hx.own hxq hk).2.1⟩
  refine ⟨nx, sx, vx, he.block hxq, (hxo.ext he).zero, fun w'' hu => ?_, fun k hk => (hold k hk).1⟩
  refine (hz.mono (Nat.zero_le _)).upd (fun h => by have := (hold r h).2; omega) ?_ hu
  intro n s hs g hg hS
  have h1 := (hold g hS).2
  have h2 := (hz.own hs hg).1
  omega

/-- Three Ints: a receiver and two operands; what may be written of the receiver leaves the others. -/
def ThreeR (kx ky one : Bool) (L : Nat) (zx zy : Int) (w : World) (e : Ending) (w' : World) : Prop :=
  Ext w w' ∧ ∃ p q r n0 v0 vs, e = .returned (.tuple #[.pointer (some ⟨p, 0, none⟩), .pointer (some ⟨q, 0, none⟩), .pointer (some ⟨r, 0, none⟩)]) ∧ IntZ L zx w' 0 q ∧ IntZ L (bif one then zx else zy) w' 0 r ∧
    w'.heap[p]? = some (.cells #[.bool n0, v0] 82 (0, 0)) ∧ Own .u64 w' 0 93 v0 vs ∧ (∀ k, (k = p ∨ v0.ownBlock = some k) → w.heap.size ≤ k) ∧
    (bif kx then q = p else ∀ w'', Upd (fun k => k = p ∨ v0.ownBlock = some k) w' w'' → IntZ L zx w'' 0 q) ∧
    (bif ky then r = p else ∀ w'', Upd (fun k => k = p ∨ v0.ownBlock = some k) w' w'' → IntZ L (bif one then zx else zy) w'' 0 r)

set_option maxHeartbeats 1000000 in
theorem three_1 (k : Int) (L : Nat) (zz zx zy : Int) (n1 n2 n3 : Bool) (a1 a2 a3 : Option Addr) (l1 l2 l3 c1 c2 c3 : Nat) (w : World) (hZ : IsZ L zz (.agg #[.bool n1, .slice a1 l1 c1]) w) (hX : IsZ L zx (.agg #[.bool n2, .slice a2 l2 c2]) w) (hY : IsZ L zy (.agg #[.bool n3, .slice a3 l3 c3]) w) (hL : L ≤ 17592186044416) (hk : k = 1) :
    Calls Tryf.prog 72 #[.int .i64 k, .agg #[.bool n1, .slice a1 l1 c1], .agg #[.bool n2, .slice a2 l2 c2], .agg #[.bool n3, .slice a3 l3 c3]] w (ThreeR true false false L zx zy w) := by
  have HZ := Lib.hid hZ
  have HX := Lib.hid hX
  have HY := Lib.hid hY
  clear hZ hX hY
  subst hk
  have tok1 : True := trivial
  go_enter Tryf.func72, Tryf.ntmps72
  go_wp2_with fail
  have hE0 : Ext w (((w.alloc (.cells #[.bool n1, .slice a1 l1 c1] 33)).alloc (.cells #[.bool n2, .slice a2 l2 c2] 33)).alloc (.cells #[.bool n3, .slice a3 l3 c3] 33)) := ((Ext.alloc _ _).trans (Ext.alloc _ _)).trans (Ext.alloc _ _)
  have hsz0 : (((w.alloc (.cells #[.bool n1, .slice a1 l1 c1] 33)).alloc (.cells #[.bool n2, .slice a2 l2 c2] 33)).alloc (.cells #[.bool n3, .slice a3 l3 c3] 33)).heap.size = w.heap.size + 3 := by simp
  have hb1 := (Ext.alloc ((w.alloc (.cells #[.bool n1, .slice a1 l1 c1] 33)).alloc (.cells #[.bool n2, .slice a2 l2 c2] 33)) (.cells #[.bool n3, .slice a3 l3 c3] 33)).block ((Ext.alloc _ _).block (heap_alloc_new w (.cells #[.bool n1, .slice a1 l1 c1] 33)))
  have hb2 := (Ext.alloc ((w.alloc (.cells #[.bool n1, .slice a1 l1 c1] 33)).alloc (.cells #[.bool n2, .slice a2 l2 c2] 33)) (.cells #[.bool n3, .slice a3 l3 c3] 33)).block (heap_second w (.cells #[.bool n1, .slice a1 l1 c1] 33) (.cells #[.bool n2, .slice a2 l2 c2] 33))
  have hb3 := heap_third' w (.cells #[.bool n1, .slice a1 l1 c1] 33) (.cells #[.bool n2, .slice a2 l2 c2] 33) (.cells #[.bool n3, .slice a3 l3 c3] 33)
  generalize (((w.alloc (.cells #[.bool n1, .slice a1 l1 c1] 33)).alloc (.cells #[.bool n2, .slice a2 l2 c2] 33)).alloc (.cells #[.bool n3, .slice a3 l3 c3] 33)) = W at *
  have e0 := blk_cell hb1 0
  have e1 := blk_cell hb1 1
  have b0 := blk_cell hb2 0
  have b1 := blk_cell hb2 1
  have d0 := blk_cell hb3 0
  have d1 := blk_cell hb3 1
  simp at e0 e1 b0 b1 d0 d1
  have HE0 := Lib.hid hE0
  have HSZ := Lib.hid hsz0
  clear hE0 hb1 hb2 hb3 hsz0
  go_region_held3 (fun w' => w'.cell? ⟨w.heap.size + 1, 0, none⟩ = some (.bool n2) ∧ w'.cell? ⟨w.heap.size + 1, 1, none⟩ = some (.slice a2 l2 c2) ∧ w'.cell? ⟨w.heap.size + 1 + 1, 0, none⟩ = some (.bool n3) ∧ w'.cell? ⟨w.heap.size + 1 + 1, 1, none⟩ = some (.slice a3 l3 c3))
    (first | go_keep | (go_split_ands; exact ⟨hce _ _ (by assumption), hce _ _ (by assumption), hce _ _ (by assumption), hce _ _ (by assumption)⟩))
    (first
      | (go_at_call 41; have _t := tok1; refine (integer_z L zx _ _ (HX.out.ext (HE0.out.trans (Ext.drew _))) hL).mono ?_; rintro e w1 ⟨he, q, rfl, hq, hI⟩; have hce := fun a v h => Ext.cell he (a := a) (v := v) h; have HE1 := Lib.hid he; have HI1 := Lib.hid hI; clear he hI tok1 _t)
      | (go_at_call 41; refine (integer_z L zy _ _ ((HY.out.ext (HE0.out.trans (Ext.drew _))).ext HE1.out) hL).mono ?_; rintro e w2 ⟨he, r, rfl, hr, hI⟩; have hce2 := fun a v h => Ext.cell he (a := a) (v := v) h; have HE2 := Lib.hid he; have HI2 := Lib.hid hI; clear he hI))
  have hqs : w.heap.size ≤ W.drew.heap.size := by have h := HSZ.out; show _ ≤ W.heap.size; omega
  have hw1 : W.drew.heap.size ≤ w1.heap.size := HE1.out.size
  have HEE := Lib.hid ((HE0.out.trans (Ext.drew W)).trans HE1.out)
  have HI1' := Lib.hid (HI1.out.ext HE2.out)
  replace HI1 := Lib.hid (HI1.out)
  have HQ := Lib.hid hq
  have HQS := Lib.hid hqs
  have HW1 := Lib.hid hw1
  have hs := sep_old HI1.out HQ.out HE2.out HI2.out hr
  have HS := Lib.hid hs
  clear hs hqs hw1 hq
  have hE : Ext w w2 := HEE.out.trans HE2.out
  have HE := Lib.hid hE
  clear hE
  go_wp2_with fail
  go_ret3
  obtain ⟨n0, v0, vs, s1, s2, s3, s4⟩ := HS.out
  exact ⟨HE.out, q, q, r, n0, v0, vs, rfl, HI1'.out.mono (Nat.zero_le _), HI2.out.mono (Nat.zero_le _), s1, s2, fun k hk => by have h1 := s4 k hk; have h2 := HQS.out; omega, rfl, s3⟩

set_option maxHeartbeats 1000000 in
theorem three_2 (k : Int) (L : Nat) (zz zx zy : Int) (n1 n2 n3 : Bool) (a1 a2 a3 : Option Addr) (l1 l2 l3 c1 c2 c3 : Nat) (w : World) (hZ : IsZ L zz (.agg #[.bool n1, .slice a1 l1 c1]) w) (hX : IsZ L zx (.agg #[.bool n2, .slice a2 l2 c2]) w) (hY : IsZ L zy (.agg #[.bool n3, .slice a3 l3 c3]) w) (hL : L ≤ 17592186044416) (hk : k = 2) :
    Calls Tryf.prog 72 #[.int .i64 k, .agg #[.bool n1, .slice a1 l1 c1], .agg #[.bool n2, .slice a2 l2 c2], .agg #[.bool n3, .slice a3 l3 c3]] w (ThreeR false true false L zx zy w) := by
  have HZ := Lib.hid hZ
  have HX := Lib.hid hX
  have HY := Lib.hid hY
  clear hZ hX hY
  subst hk
  have tok1 : True := trivial
  go_enter Tryf.func72, Tryf.ntmps72
  go_wp2_with fail
  have hE0 : Ext w (((w.alloc (.cells #[.bool n1, .slice a1 l1 c1] 33)).alloc (.cells #[.bool n2, .slice a2 l2 c2] 33)).alloc (.cells #[.bool n3, .slice a3 l3 c3] 33)) := ((Ext.alloc _ _).trans (Ext.alloc _ _)).trans (Ext.alloc _ _)
  have hsz0 : (((w.alloc (.cells #[.bool n1, .slice a1 l1 c1] 33)).alloc (.cells #[.bool n2, .slice a2 l2 c2] 33)).alloc (.cells #[.bool n3, .slice a3 l3 c3] 33)).heap.size = w.heap.size + 3 := by simp
  have hb1 := (Ext.alloc ((w.alloc (.cells #[.bool n1, .slice a1 l1 c1] 33)).alloc (.cells #[.bool n2, .slice a2 l2 c2] 33)) (.cells #[.bool n3, .slice a3 l3 c3] 33)).block ((Ext.alloc _ _).block (heap_alloc_new w (.cells #[.bool n1, .slice a1 l1 c1] 33)))
  have hb2 := (Ext.alloc ((w.alloc (.cells #[.bool n1, .slice a1 l1 c1] 33)).alloc (.cells #[.bool n2, .slice a2 l2 c2] 33)) (.cells #[.bool n3, .slice a3 l3 c3] 33)).block (heap_second w (.cells #[.bool n1, .slice a1 l1 c1] 33) (.cells #[.bool n2, .slice a2 l2 c2] 33))
  have hb3 := heap_third' w (.cells #[.bool n1, .slice a1 l1 c1] 33) (.cells #[.bool n2, .slice a2 l2 c2] 33) (.cells #[.bool n3, .slice a3 l3 c3] 33)
  generalize (((w.alloc (.cells #[.bool n1, .slice a1 l1 c1] 33)).alloc (.cells #[.bool n2, .slice a2 l2 c2] 33)).alloc (.cells #[.bool n3, .slice a3 l3 c3] 33)) = W at *
  have e0 := blk_cell hb1 0
  have e1 := blk_cell hb1 1
  have b0 := blk_cell hb2 0
  have b1 := blk_cell hb2 1
  have d0 := blk_cell hb3 0
  have d1 := blk_cell hb3 1
  simp at e0 e1 b0 b1 d0 d1
  have HE0 := Lib.hid hE0
  have HSZ := Lib.hid hsz0
  clear hE0 hb1 hb2 hb3 hsz0
  go_region_held3 (fun w' => w'.cell? ⟨w.heap.size + 1, 0, none⟩ = some (.bool n2) ∧ w'.cell? ⟨w.heap.size + 1, 1, none⟩ = some (.slice a2 l2 c2) ∧ w'.cell? ⟨w.heap.size + 1 + 1, 0, none⟩ = some (.bool n3) ∧ w'.cell? ⟨w.heap.size + 1 + 1, 1, none⟩ = some (.slice a3 l3 c3))
    (first | go_keep | (go_split_ands; exact ⟨hce _ _ (by assumption), hce _ _ (by assumption), hce _ _ (by assumption), hce _ _ (by assumption)⟩))
    (first
      | (go_at_call 41; have _t := tok1; refine (integer_z L zx _ _ (HX.out.ext (HE0.out.trans (Ext.drew _))) hL).mono ?_; rintro e w1 ⟨he, q, rfl, hq, hI⟩; have hce := fun a v h => Ext.cell he (a := a) (v := v) h; have HE1 := Lib.hid he; have HI1 := Lib.hid hI; clear he hI tok1 _t)
      | (go_at_call 41; refine (integer_z L zy _ _ ((HY.out.ext (HE0.out.trans (Ext.drew _))).ext HE1.out) hL).mono ?_; rintro e w2 ⟨he, r, rfl, hr, hI⟩; have hce2 := fun a v h => Ext.cell he (a := a) (v := v) h; have HE2 := Lib.hid he; have HI2 := Lib.hid hI; clear he hI))
  have hqs : w.heap.size ≤ W.drew.heap.size := by have h := HSZ.out; show _ ≤ W.heap.size; omega
  have hw1 : W.drew.heap.size ≤ w1.heap.size := HE1.out.size
  have HEE := Lib.hid ((HE0.out.trans (Ext.drew W)).trans HE1.out)
  have HI1' := Lib.hid (HI1.out.ext HE2.out)
  replace HI1 := Lib.hid (HI1.out)
  have HQ := Lib.hid hq
  have HQS := Lib.hid hqs
  have HW1 := Lib.hid hw1
  have hs := sep_two HI1.out HE2.out HI2.out hr
  have HS := Lib.hid hs
  clear hs hqs hw1 hq
  have hE : Ext w w2 := HEE.out.trans HE2.out
  have HE := Lib.hid hE
  clear hE
  go_wp2_with fail
  go_ret3
  obtain ⟨_, n0, v0, vs, s1, s2, s3, s4⟩ := HS.out
  exact ⟨HE.out, r, q, r, n0, v0, vs, rfl, HI1'.out.mono (Nat.zero_le _), HI2.out.mono (Nat.zero_le _), s1, s2, fun k hk => by have h1 := s4 k hk; have h2 := HQS.out; have h3 := HW1.out; omega, s3, rfl⟩

set_option maxHeartbeats 1000000 in
theorem three_3 (k : Int) (L : Nat) (zz zx zy : Int) (n1 n2 n3 : Bool) (a1 a2 a3 : Option Addr) (l1 l2 l3 c1 c2 c3 : Nat) (w : World) (hZ : IsZ L zz (.agg #[.bool n1, .slice a1 l1 c1]) w) (hX : IsZ L zx (.agg #[.bool n2, .slice a2 l2 c2]) w) (hY : IsZ L zy (.agg #[.bool n3, .slice a3 l3 c3]) w) (hL : L ≤ 17592186044416) (hk : k = 3) :
    Calls Tryf.prog 72 #[.int .i64 k, .agg #[.bool n1, .slice a1 l1 c1], .agg #[.bool n2, .slice a2 l2 c2], .agg #[.bool n3, .slice a3 l3 c3]] w (ThreeR true true true L zx zy w) := by
  have HZ := Lib.hid hZ
  have HX := Lib.hid hX
  have HY := Lib.hid hY
  clear hZ hX hY
  subst hk
  have tok1 : True := trivial
  go_enter Tryf.func72, Tryf.ntmps72
  go_wp2_with fail
  have hE0 : Ext w (((w.alloc (.cells #[.bool n1, .slice a1 l1 c1] 33)).alloc (.cells #[.bool n2, .slice a2 l2 c2] 33)).alloc (.cells #[.bool n3, .slice a3 l3 c3] 33)) := ((Ext.alloc _ _).trans (Ext.alloc _ _)).trans (Ext.alloc _ _)
  have hsz0 : (((w.alloc (.cells #[.bool n1, .slice a1 l1 c1] 33)).alloc (.cells #[.bool n2, .slice a2 l2 c2] 33)).alloc (.cells #[.bool n3, .slice a3 l3 c3] 33)).heap.size = w.heap.size + 3 := by simp
  have hb1 := (Ext.alloc ((w.alloc (.cells #[.bool n1, .slice a1 l1 c1] 33)).alloc (.cells #[.bool n2, .slice a2 l2 c2] 33)) (.cells #[.bool n3, .slice a3 l3 c3] 33)).block ((Ext.alloc _ _).block (heap_alloc_new w (.cells #[.bool n1, .slice a1 l1 c1] 33)))
  have hb2 := (Ext.alloc ((w.alloc (.cells #[.bool n1, .slice a1 l1 c1] 33)).alloc (.cells #[.bool n2, .slice a2 l2 c2] 33)) (.cells #[.bool n3, .slice a3 l3 c3] 33)).block (heap_second w (.cells #[.bool n1, .slice a1 l1 c1] 33) (.cells #[.bool n2, .slice a2 l2 c2] 33))
  have hb3 := heap_third' w (.cells #[.bool n1, .slice a1 l1 c1] 33) (.cells #[.bool n2, .slice a2 l2 c2] 33) (.cells #[.bool n3, .slice a3 l3 c3] 33)
  generalize (((w.alloc (.cells #[.bool n1, .slice a1 l1 c1] 33)).alloc (.cells #[.bool n2, .slice a2 l2 c2] 33)).alloc (.cells #[.bool n3, .slice a3 l3 c3] 33)) = W at *
  have e0 := blk_cell hb1 0
  have e1 := blk_cell hb1 1
  have b0 := blk_cell hb2 0
  have b1 := blk_cell hb2 1
  have d0 := blk_cell hb3 0
  have d1 := blk_cell hb3 1
  simp at e0 e1 b0 b1 d0 d1
  have HE0 := Lib.hid hE0
  have HSZ := Lib.hid hsz0
  clear hE0 hb1 hb2 hb3 hsz0
  go_region_held3 (fun w' => w'.cell? ⟨w.heap.size + 1, 0, none⟩ = some (.bool n2) ∧ w'.cell? ⟨w.heap.size + 1, 1, none⟩ = some (.slice a2 l2 c2) ∧ w'.cell? ⟨w.heap.size + 1 + 1, 0, none⟩ = some (.bool n3) ∧ w'.cell? ⟨w.heap.size + 1 + 1, 1, none⟩ = some (.slice a3 l3 c3))
    (first | go_keep | (go_split_ands; exact ⟨hce _ _ (by assumption), hce _ _ (by assumption), hce _ _ (by assumption), hce _ _ (by assumption)⟩))
    (first
      | (go_at_call 41; have _t := tok1; refine (integer_z L zx _ _ (HX.out.ext (HE0.out.trans (Ext.drew _))) hL).mono ?_; rintro e w1 ⟨he, q, rfl, hq, hI⟩; have hce := fun a v h => Ext.cell he (a := a) (v := v) h; have HE1 := Lib.hid he; have HI1 := Lib.hid hI; clear he hI tok1 _t)
      | (go_at_call 41; refine (integer_z L zy _ _ ((HY.out.ext (HE0.out.trans (Ext.drew _))).ext HE1.out) hL).mono ?_; rintro e w2 ⟨he, r, rfl, hr, hI⟩; have hce2 := fun a v h => Ext.cell he (a := a) (v := v) h; have HE2 := Lib.hid he; have HI2 := Lib.hid hI; clear he hI))
  have hqs : w.heap.size ≤ W.drew.heap.size := by have h := HSZ.out; show _ ≤ W.heap.size; omega
  have hw1 : W.drew.heap.size ≤ w1.heap.size := HE1.out.size
  have HEE := Lib.hid ((HE0.out.trans (Ext.drew W)).trans HE1.out)
  have HI1' := Lib.hid (HI1.out.ext HE2.out)
  replace HI1 := Lib.hid (HI1.out)
  have HQ := Lib.hid hq
  have HQS := Lib.hid hqs
  have HW1 := Lib.hid hw1
  have hs := sep_old HI1.out HQ.out HE2.out HI2.out hr
  have HS := Lib.hid hs
  clear hs hqs hw1 hq
  have hE : Ext w w2 := HEE.out.trans HE2.out
  have HE := Lib.hid hE
  clear hE
  go_wp2_with fail
  go_ret3
  obtain ⟨n0, v0, vs, s1, s2, s3, s4⟩ := HS.out
  exact ⟨HE.out, q, q, q, n0, v0, vs, rfl, HI1'.out.mono (Nat.zero_le _), HI1'.out.mono (Nat.zero_le _), s1, s2, fun k hk => by have h1 := s4 k hk; have h2 := HQS.out; omega, rfl, rfl⟩

set_option maxHeartbeats 1000000 in
theorem three_4 (k : Int) (L : Nat) (zz zx zy : Int) (n1 n2 n3 : Bool) (a1 a2 a3 : Option Addr) (l1 l2 l3 c1 c2 c3 : Nat) (w : World) (hZ : IsZ L zz (.agg #[.bool n1, .slice a1 l1 c1]) w) (hX : IsZ L zx (.agg #[.bool n2, .slice a2 l2 c2]) w) (hY : IsZ L zy (.agg #[.bool n3, .slice a3 l3 c3]) w) (hL : L ≤ 17592186044416) (hk : k = 4) :
    Calls Tryf.prog 72 #[.int .i64 k, .agg #[.bool n1, .slice a1 l1 c1], .agg #[.bool n2, .slice a2 l2 c2], .agg #[.bool n3, .slice a3 l3 c3]] w (ThreeR false false true L zx zy w) := by
  have HZ := Lib.hid hZ
  have HX := Lib.hid hX
  have HY := Lib.hid hY
  clear hZ hX hY
  subst hk
  have tok1 : True := trivial
  go_enter Tryf.func72, Tryf.ntmps72
  go_wp2_with fail
  have hE0 : Ext w (((w.alloc (.cells #[.bool n1, .slice a1 l1 c1] 33)).alloc (.cells #[.bool n2, .slice a2 l2 c2] 33)).alloc (.cells #[.bool n3, .slice a3 l3 c3] 33)) := ((Ext.alloc _ _).trans (Ext.alloc _ _)).trans (Ext.alloc _ _)
  have hsz0 : (((w.alloc (.cells #[.bool n1, .slice a1 l1 c1] 33)).alloc (.cells #[.bool n2, .slice a2 l2 c2] 33)).alloc (.cells #[.bool n3, .slice a3 l3 c3] 33)).heap.size = w.heap.size + 3 := by simp
  have hb1 := (Ext.alloc ((w.alloc (.cells #[.bool n1, .slice a1 l1 c1] 33)).alloc (.cells #[.bool n2, .slice a2 l2 c2] 33)) (.cells #[.bool n3, .slice a3 l3 c3] 33)).block ((Ext.alloc _ _).block (heap_alloc_new w (.cells #[.bool n1, .slice a1 l1 c1] 33)))
  have hb2 := (Ext.alloc ((w.alloc (.cells #[.bool n1, .slice a1 l1 c1] 33)).alloc (.cells #[.bool n2, .slice a2 l2 c2] 33)) (.cells #[.bool n3, .slice a3 l3 c3] 33)).block (heap_second w (.cells #[.bool n1, .slice a1 l1 c1] 33) (.cells #[.bool n2, .slice a2 l2 c2] 33))
  have hb3 := heap_third' w (.cells #[.bool n1, .slice a1 l1 c1] 33) (.cells #[.bool n2, .slice a2 l2 c2] 33) (.cells #[.bool n3, .slice a3 l3 c3] 33)
  generalize (((w.alloc (.cells #[.bool n1, .slice a1 l1 c1] 33)).alloc (.cells #[.bool n2, .slice a2 l2 c2] 33)).alloc (.cells #[.bool n3, .slice a3 l3 c3] 33)) = W at *
  have e0 := blk_cell hb1 0
  have e1 := blk_cell hb1 1
  have b0 := blk_cell hb2 0
  have b1 := blk_cell hb2 1
  have d0 := blk_cell hb3 0
  have d1 := blk_cell hb3 1
  simp at e0 e1 b0 b1 d0 d1
  have HE0 := Lib.hid hE0
  have HSZ := Lib.hid hsz0
  clear hE0 hb1 hb2 hb3 hsz0
  go_region_held3 (fun w' => w'.cell? ⟨w.heap.size + 1, 0, none⟩ = some (.bool n2) ∧ w'.cell? ⟨w.heap.size + 1, 1, none⟩ = some (.slice a2 l2 c2) ∧ w'.cell? ⟨w.heap.size + 1 + 1, 0, none⟩ = some (.bool n3) ∧ w'.cell? ⟨w.heap.size + 1 + 1, 1, none⟩ = some (.slice a3 l3 c3))
    (first | go_keep | (go_split_ands; exact ⟨hce _ _ (by assumption), hce _ _ (by assumption), hce _ _ (by assumption), hce _ _ (by assumption)⟩))
    (first
      | (go_at_call 41; have _t := tok1; refine (integer_z L zx _ _ (HX.out.ext (HE0.out.trans (Ext.drew _))) hL).mono ?_; rintro e w1 ⟨he, q, rfl, hq, hI⟩; have hce := fun a v h => Ext.cell he (a := a) (v := v) h; have HE1 := Lib.hid he; have HI1 := Lib.hid hI; clear he hI tok1 _t)
      | (go_at_call 41; refine (integer_z L zy _ _ ((HY.out.ext (HE0.out.trans (Ext.drew _))).ext HE1.out) hL).mono ?_; rintro e w2 ⟨he, r, rfl, hr, hI⟩; have hce2 := fun a v h => Ext.cell he (a := a) (v := v) h; have HE2 := Lib.hid he; have HI2 := Lib.hid hI; clear he hI))
  have hqs : w.heap.size ≤ W.drew.heap.size := by have h := HSZ.out; show _ ≤ W.heap.size; omega
  have hw1 : W.drew.heap.size ≤ w1.heap.size := HE1.out.size
  have HEE := Lib.hid ((HE0.out.trans (Ext.drew W)).trans HE1.out)
  have HI1' := Lib.hid (HI1.out.ext HE2.out)
  replace HI1 := Lib.hid (HI1.out)
  have HQ := Lib.hid hq
  have HQS := Lib.hid hqs
  have HW1 := Lib.hid hw1
  clear hqs hw1 hq
  have hE : Ext w w2 := HEE.out.trans HE2.out
  have HE := Lib.hid hE
  clear hE
  have h0 := hce2 _ _ (hce _ _ e0)
  have h1 := hce2 _ _ (hce _ _ e1)
  clear hce hce2 e0 e1 b0 b1 d0 d1
  go_wp2_with fail
  refine (integer_z L zz _ _ (HZ.out.ext HE.out) hL).mono ?_
  rintro e w3 ⟨he, p, rfl, hp, hI⟩
  have hsq := sep_two HI1'.out he hI hp
  have hsr := sep_two HI2.out he hI hp
  have HE3 := Lib.hid (HE.out.trans he)
  have HJ1 := Lib.hid ((HI1'.out.ext he).mono (Nat.zero_le _))
  have HJ2 := Lib.hid ((HI2.out.ext he).mono (Nat.zero_le _))
  have hsz : w.heap.size ≤ w2.heap.size := HE.out.size
  have HZZ := Lib.hid hI
  have HSQ := Lib.hid hsq
  have HSR := Lib.hid hsr
  clear hsq hsr hI he h0 h1
  go_wp2_with fail
  go_ret3
  obtain ⟨_, n0, v0, vs, s1, s2, s3, s4⟩ := HSQ.out
  obtain ⟨_, m0, u0, us, t1, t2, t3, t4⟩ := HSR.out
  rw [s1] at t1
  obtain ⟨rfl, rfl⟩ : n0 = m0 ∧ v0 = u0 := by simpa using t1
  exact ⟨HE3.out, p, q, q, n0, v0, vs, rfl, HJ1.out, HJ1.out, s1, s2, fun k hk => by have h1 := s4 k hk; omega, s3, s3⟩

set_option maxHeartbeats 1000000 in
theorem three_o (k : Int) (L : Nat) (zz zx zy : Int) (n1 n2 n3 : Bool) (a1 a2 a3 : Option Addr) (l1 l2 l3 c1 c2 c3 : Nat) (w : World) (hZ : IsZ L zz (.agg #[.bool n1, .slice a1 l1 c1]) w) (hX : IsZ L zx (.agg #[.bool n2, .slice a2 l2 c2]) w) (hY : IsZ L zy (.agg #[.bool n3, .slice a3 l3 c3]) w) (hL : L ≤ 17592186044416) (hk : k ≠ 1 ∧ k ≠ 2 ∧ k ≠ 3 ∧ k ≠ 4) :
    Calls Tryf.prog 72 #[.int .i64 k, .agg #[.bool n1, .slice a1 l1 c1], .agg #[.bool n2, .slice a2 l2 c2], .agg #[.bool n3, .slice a3 l3 c3]] w (ThreeR false false false L zx zy w) := by
  have HZ := Lib.hid hZ
  have HX := Lib.hid hX
  have HY := Lib.hid hY
  clear hZ hX hY
  have hk1 : (k == 1) = false := beq_eq_false_iff_ne.2 hk.1
  have hk2 : (k == 2) = false := beq_eq_false_iff_ne.2 hk.2.1
  have hk3 : (k == 3) = false := beq_eq_false_iff_ne.2 hk.2.2.1
  have hk4 : (k == 4) = false := beq_eq_false_iff_ne.2 hk.2.2.2
  clear hk
  have tok1 : True := trivial
  go_enter Tryf.func72, Tryf.ntmps72
  go_wp2_with fail
  have hE0 : Ext w (((w.alloc (.cells #[.bool n1, .slice a1 l1 c1] 33)).alloc (.cells #[.bool n2, .slice a2 l2 c2] 33)).alloc (.cells #[.bool n3, .slice a3 l3 c3] 33)) := ((Ext.alloc _ _).trans (Ext.alloc _ _)).trans (Ext.alloc _ _)
  have hsz0 : (((w.alloc (.cells #[.bool n1, .slice a1 l1 c1] 33)).alloc (.cells #[.bool n2, .slice a2 l2 c2] 33)).alloc (.cells #[.bool n3, .slice a3 l3 c3] 33)).heap.size = w.heap.size + 3 := by simp
  have hb1 := (Ext.alloc ((w.alloc (.cells #[.bool n1, .slice a1 l1 c1] 33)).alloc (.cells #[.bool n2, .slice a2 l2 c2] 33)) (.cells #[.bool n3, .slice a3 l3 c3] 33)).block ((Ext.alloc _ _).block (heap_alloc_new w (.cells #[.bool n1, .slice a1 l1 c1] 33)))
  have hb2 := (Ext.alloc ((w.alloc (.cells #[.bool n1, .slice a1 l1 c1] 33)).alloc (.cells #[.bool n2, .slice a2 l2 c2] 33)) (.cells #[.bool n3, .slice a3 l3 c3] 33)).block (heap_second w (.cells #[.bool n1, .slice a1 l1 c1] 33) (.cells #[.bool n2, .slice a2 l2 c2] 33))
  have hb3 := heap_third' w (.cells #[.bool n1, .slice a1 l1 c1] 33) (.cells #[.bool n2, .slice a2 l2 c2] 33) (.cells #[.bool n3, .slice a3 l3 c3] 33)
  generalize (((w.alloc (.cells #[.bool n1, .slice a1 l1 c1] 33)).alloc (.cells #[.bool n2, .slice a2 l2 c2] 33)).alloc (.cells #[.bool n3, .slice a3 l3 c3] 33)) = W at *
  have e0 := blk_cell hb1 0
  have e1 := blk_cell hb1 1
  have b0 := blk_cell hb2 0
  have b1 := blk_cell hb2 1
  have d0 := blk_cell hb3 0
  have d1 := blk_cell hb3 1
  simp at e0 e1 b0 b1 d0 d1
  have HE0 := Lib.hid hE0
  have HSZ := Lib.hid hsz0
  clear hE0 hb1 hb2 hb3 hsz0
  go_region_held3 (fun w' => w'.cell? ⟨w.heap.size + 1, 0, none⟩ = some (.bool n2) ∧ w'.cell? ⟨w.heap.size + 1, 1, none⟩ = some (.slice a2 l2 c2) ∧ w'.cell? ⟨w.heap.size + 1 + 1, 0, none⟩ = some (.bool n3) ∧ w'.cell? ⟨w.heap.size + 1 + 1, 1, none⟩ = some (.slice a3 l3 c3))
    (first | go_keep | (go_split_ands; exact ⟨hce _ _ (by assumption), hce _ _ (by assumption), hce _ _ (by assumption), hce _ _ (by assumption)⟩))
    (first
      | (go_at_call 41; have _t := tok1; refine (integer_z L zx _ _ (HX.out.ext (HE0.out.trans (Ext.drew _))) hL).mono ?_; rintro e w1 ⟨he, q, rfl, hq, hI⟩; have hce := fun a v h => Ext.cell he (a := a) (v := v) h; have HE1 := Lib.hid he; have HI1 := Lib.hid hI; clear he hI tok1 _t)
      | (go_at_call 41; refine (integer_z L zy _ _ ((HY.out.ext (HE0.out.trans (Ext.drew _))).ext HE1.out) hL).mono ?_; rintro e w2 ⟨he, r, rfl, hr, hI⟩; have hce2 := fun a v h => Ext.cell he (a := a) (v := v) h; have HE2 := Lib.hid he; have HI2 := Lib.hid hI; clear he hI))
  have hqs : w.heap.size ≤ W.drew.heap.size := by have h := HSZ.out; show _ ≤ W.heap.size; omega
  have hw1 : W.drew.heap.size ≤ w1.heap.size := HE1.out.size
  have HEE := Lib.hid ((HE0.out.trans (Ext.drew W)).trans HE1.out)
  have HI1' := Lib.hid (HI1.out.ext HE2.out)
  replace HI1 := Lib.hid (HI1.out)
  have HQ := Lib.hid hq
  have HQS := Lib.hid hqs
  have HW1 := Lib.hid hw1
  clear hqs hw1 hq
  have hE : Ext w w2 := HEE.out.trans HE2.out
  have HE := Lib.hid hE
  clear hE
  have h0 := hce2 _ _ (hce _ _ e0)
  have h1 := hce2 _ _ (hce _ _ e1)
  clear hce hce2 e0 e1 b0 b1 d0 d1
  go_wp2_with fail
  refine (integer_z L zz _ _ (HZ.out.ext HE.out) hL).mono ?_
  rintro e w3 ⟨he, p, rfl, hp, hI⟩
  have hsq := sep_two HI1'.out he hI hp
  have hsr := sep_two HI2.out he hI hp
  have HE3 := Lib.hid (HE.out.trans he)
  have HJ1 := Lib.hid ((HI1'.out.ext he).mono (Nat.zero_le _))
  have HJ2 := Lib.hid ((HI2.out.ext he).mono (Nat.zero_le _))
  have hsz : w.heap.size ≤ w2.heap.size := HE.out.size
  have HZZ := Lib.hid hI
  have HSQ := Lib.hid hsq
  have HSR := Lib.hid hsr
  clear hsq hsr hI he h0 h1
  go_wp2_with fail
  go_ret3
  obtain ⟨_, n0, v0, vs, s1, s2, s3, s4⟩ := HSQ.out
  obtain ⟨_, m0, u0, us, t1, t2, t3, t4⟩ := HSR.out
  rw [s1] at t1
  obtain ⟨rfl, rfl⟩ : n0 = m0 ∧ v0 = u0 := by simpa using t1
  exact ⟨HE3.out, p, q, r, n0, v0, vs, rfl, HJ1.out, HJ2.out, s1, s2, fun k hk => by have h1 := s4 k hk; omega, s3, t3⟩

theorem three_z (k : Int) (L : Nat) (zz zx zy : Int) (Z X Y : Value) (w : World) (hZ : IsZ L zz Z w) (hX : IsZ L zx X w) (hY : IsZ L zy Y w) (hL : L ≤ 17592186044416) :
    Calls Tryf.prog 72 #[.int .i64 k, Z, X, Y] w (ThreeR (isX k) (isY k) (isOne k) L zx zy w) := by
  obtain ⟨n1, a1, l1, c1, rfl⟩ := hZ.form
  obtain ⟨n2, a2, l2, c2, rfl⟩ := hX.form
  obtain ⟨n3, a3, l3, c3, rfl⟩ := hY.form
  by_cases h1 : k = 1
  · have := three_1 k L zz zx zy n1 n2 n3 a1 a2 a3 l1 l2 l3 c1 c2 c3 w hZ hX hY hL h1
    subst h1; exact this
  · by_cases h2 : k = 2
    · have := three_2 k L zz zx zy n1 n2 n3 a1 a2 a3 l1 l2 l3 c1 c2 c3 w hZ hX hY hL h2
      subst h2; exact this
    · by_cases h3 : k = 3
      · have := three_3 k L zz zx zy n1 n2 n3 a1 a2 a3 l1 l2 l3 c1 c2 c3 w hZ hX hY hL h3
        subst h3; exact this
      · by_cases h4 : k = 4
        · have := three_4 k L zz zx zy n1 n2 n3 a1 a2 a3 l1 l2 l3 c1 c2 c3 w hZ hX hY hL h4
          subst h4; exact this
        · have := three_o k L zz zx zy n1 n2 n3 a1 a2 a3 l1 l2 l3 c1 c2 c3 w hZ hX hY hL ⟨h1, h2, h3, h4⟩
          rw [show isX k = false by simp [isX, h1, h3], show isY k = false by simp [isY, h2, h3], show isOne k = false by simp [isOne, h3, h4]]
          exact this

set_option maxHeartbeats 400000 in
theorem triple_z (L : Nat) (zc za zb : Int) (p q r : Nat) (w : World) (hc : IntZ L zc w 0 p) (ha : IntZ L za w 0 q) (hb : IntZ L zb w 0 r) (hL : L ≤ 17592186044416) :
    Calls Tryf.prog 74 #[.pointer (some ⟨p, 0, none⟩), .pointer (some ⟨q, 0, none⟩), .pointer (some ⟨r, 0, none⟩)] w (ResR (IsT L zc za zb) w) := by
  have HC := Lib.hid hc
  have HA := Lib.hid ha
  have HB := Lib.hid hb
  clear hc ha hb
  go_enter Tryf.func74, Tryf.ntmps74
  go_wp2_with fail
  refine (number_z L zc 0 p _ (HC.out.ext (Ext.alloc _ _)) hL).mono ?_
  rintro e w1 ⟨he, x, rfl, hx⟩
  have hp1 : w1.heap[w.heap.size]? = some (.cells #[.bool false, .slice none 0 0, .bool false, .slice none 0 0, .bool false, .slice none 0 0] 75 (0, 0)) := he.block (heap_alloc_new _ _)
  obtain ⟨n1, a1, l1, c1, rfl⟩ := hx.form
  have HX := Lib.hid hx
  have HP1 := Lib.hid hp1
  have HE := Lib.hid ((Ext.alloc _ _).trans he)
  clear hx hp1 he
  go_wp2_with fail
  refine (number_z L za 0 q _ (HA.out.ext HE.out) hL).mono ?_
  rintro e w2 ⟨he, y, rfl, hy⟩
  obtain ⟨n2, a2, l2, c2, rfl⟩ := hy.form
  have HX2 := Lib.hid (HX.out.ext he)
  have HY := Lib.hid hy
  have HP2 := Lib.hid (he.block HP1.out)
  have HE2 := Lib.hid (HE.out.trans he)
  clear hy he
  go_wp2_with fail
  refine (number_z L zb 0 r _ (HB.out.ext HE2.out) hL).mono ?_
  rintro e w3 ⟨he, y, rfl, hy⟩
  obtain ⟨n3, a3, l3, c3, rfl⟩ := hy.form
  have hp2 := he.block HP2.out
  have d0 := blk_cell hp2 0
  have d1 := blk_cell hp2 1
  have d2 := blk_cell hp2 2
  have d3 := blk_cell hp2 3
  have d4 := blk_cell hp2 4
  have d5 := blk_cell hp2 5
  have f0 := blk_free hp2 0
  have f1 := blk_free hp2 1
  have f2 := blk_free hp2 2
  have f3 := blk_free hp2 3
  have f4 := blk_free hp2 4
  have f5 := blk_free hp2 5
  simp at d0 d1 d2 d3 d4 d5
  have HX3 := Lib.hid (HX2.out.ext he)
  have HY3 := Lib.hid (HY.out.ext he)
  have HW := Lib.hid hy
  have HP3 := Lib.hid hp2
  have HE3 := Lib.hid (HE2.out.trans he)
  clear hy hp2 he
  go_wp2_with fail
  have hh := put6_heap HP3.out (.bool n1) (.slice a1 l1 c1) (.bool n2) (.slice a2 l2 c2) (.bool n3) (.slice a3 l3 c3)
  have hu := put6_upd w3 w.heap.size (.bool n1) (.slice a1 l1 c1) (.bool n2) (.slice a2 l2 c2) (.bool n3) (.slice a3 l3 c3)
  exact bodyPost_ret (results_triple rfl _ rfl (blk_cell hh 0) (blk_cell hh 1) (blk_cell hh 2) (blk_cell hh 3) (blk_cell hh 4) (blk_cell hh 5)) rfl
    ⟨hu.ext HE3.out (by omega), _, rfl, _, _, _, _, _, _, rfl, HX3.out.upd HP3.out (by decide) hu, HY3.out.upd HP3.out (by decide) hu, HW.out.upd HP3.out (by decide) hu⟩

end Go.Proofs.YtocadbghhoibnaaFmt

/- (*Int).Add, Sub and impl.Add, impl.Sub by values: contracts (printed by genas.py). -/
namespace Go.Proofs.YtocadbghhoibnaaFmt
open Go.RowKit

theorem sum_sign {ws : List Nat} {z : Int} {neg : Bool} (hn : norm ws = ws) (hv : val ws = z.natAbs) (hs : z ≠ 0 → neg = decide (z < 0)) : (decide (0 < ws.length) && neg) = decide (z < 0) := by
  have h := len_pos_iff hn
  rw [hv] at h
  by_cases hz : z = 0
  · subst hz
    have : ¬ 0 < ws.length := fun q => by have := h.1 q; simp at this
    simp [this]
  · have : 0 < ws.length := h.2 (by omega)
    simp [this, hs hz]

theorem SumR.z {p : Nat} {v0 : Value} {t L : Nat} {neg : Bool} {w : World} {e : Ending} {w' : World} (z : Int) (h : SumR p v0 t L neg w e w') (hv : t = z.natAbs) (hs : z ≠ 0 → neg = decide (z < 0)) :
    e = .returned (.pointer (some ⟨p, 0, none⟩)) ∧ IntZ L z w' 0 p ∧ Upd (fun k => k = p ∨ v0.ownBlock = some k) w w' := by
  obtain ⟨h1, ws, h2, h3, h4, h5, h6⟩ := h
  refine ⟨h1, ⟨ws, ?_, h3, by rw [h4, hv], h5⟩, h6⟩
  rw [← sum_sign h3 (by rw [h4, hv]) hs]; exact h2

theorem SumR.more {p : Nat} {v0 : Value} {t L M : Nat} {neg : Bool} {w : World} {e : Ending} {w' : World} (h : SumR p v0 t L neg w e w') (hl : L ≤ M) : SumR p v0 t M neg w e w' := by
  obtain ⟨h1, ws, h2, h3, h4, h5, h6⟩ := h
  exact ⟨h1, ws, h2, h3, h4, Nat.le_trans h5 hl, h6⟩

theorem intAdd_z (L : Nat) (zx zy : Int) (p q r : Nat) (n0 : Bool) (v0 : Value) (vs : List Nat) (w : World) (hp : w.heap[p]? = some (.cells #[.bool n0, v0] 82 (0, 0))) (hv : Own .u64 w 0 93 v0 vs) (hx : IntZ L zx w 0 q) (hy : IntZ L zy w 0 r) (hL : L ≤ 17592186044416) :
    Calls Tryf.prog 73 #[.pointer (some ⟨p, 0, none⟩), .pointer (some ⟨q, 0, none⟩), .pointer (some ⟨r, 0, none⟩)] w fun e w' => e = .returned (.pointer (some ⟨p, 0, none⟩)) ∧ IntZ (L + 1) (zx + zy) w' 0 p ∧ Upd (fun k => k = p ∨ v0.ownBlock = some k) w w' := by
  obtain ⟨ax, cx, xs, hq, hox, hnx, hvx, hlx⟩ := hx.low
  obtain ⟨ay, cy, ys, hr, hoy, hny, hvy, hly⟩ := hy.low
  by_cases hs : (zx < 0 ↔ zy < 0)
  · refine (intAdd_A p q r n0 _ _ v0 _ _ vs xs ys L w hp hq hr hv hox hoy hnx hny hL hlx hly (by exact decide_eq_decide.2 hs)).mono fun e w' h => h.z _ (by rw [hvx, hvy]; omega) (fun h0 => ?_)
    rw [decide_eq_decide]; omega
  · by_cases hc : val ys ≤ val xs
    · refine (intAdd_B p q r n0 _ _ v0 _ _ vs xs ys L w hp hq hr hv hox hoy hnx hny hL hlx hly (by exact fun h => hs (decide_eq_decide.1 h)) hc).mono fun e w' h => (h.more (by omega)).z _ (by rw [hvx, hvy]; rw [hvx, hvy] at hc; omega) (fun h0 => ?_)
      rw [decide_eq_decide]; rw [hvx, hvy] at hc; omega
    · refine (intAdd_C p q r n0 _ _ v0 _ _ vs xs ys L w hp hq hr hv hox hoy hnx hny hL hlx hly (by exact fun h => hs (decide_eq_decide.1 h)) (by omega)).mono fun e w' h => (h.more (by omega)).z _ (by rw [hvx, hvy]; rw [hvx, hvy] at hc; omega) (fun h0 => ?_)
      rw [← decide_not, decide_eq_decide]; rw [hvx, hvy] at hc; omega

set_option maxHeartbeats 1000000 in
theorem implAdd_z (k : Int) (L : Nat) (zz x y : Int) (Z X Y : Value) (w : World) (hZ : IsZ L zz Z w) (hX : IsZ L x X w) (hY : IsZ L y Y w) (hL : L + 1 ≤ 17592186044416) :
    Calls Tryf.prog 48 #[.int .i64 k, Z, X, Y] w (ResR (IsT (L + 1) (x + secZ k x y) (aftX k (x + secZ k x y) x) (aftY k (x + secZ k x y) (secZ k x y))) w) := by
  obtain ⟨n1, a1, l1, c1, rfl⟩ := hZ.form
  obtain ⟨n2, a2, l2, c2, rfl⟩ := hX.form
  obtain ⟨n3, a3, l3, c3, rfl⟩ := hY.form
  have HZ := Lib.hid hZ
  have HX := Lib.hid hX
  have HY := Lib.hid hY
  clear hZ hX hY
  generalize hy2 : secZ k x y = y2
  generalize hres : x + y2 = rz
  generalize haf : aftX k rz x = af
  generalize hbf : aftY k rz y2 = bf
  have HY2 := Lib.hid hy2
  have HRES := Lib.hid hres
  have HAF := Lib.hid haf
  have HBF := Lib.hid hbf
  clear hy2 hres haf hbf
  go_enter Tryf.func48, Tryf.ntmps48
  go_wp2_with fail
  refine (three_z k L zz x y _ _ _ _ (HZ.out.ext ((((Ext.alloc _ _).trans (Ext.alloc _ _)).trans (Ext.alloc _ _)).trans (Ext.alloc _ _))) (HX.out.ext ((((Ext.alloc _ _).trans (Ext.alloc _ _)).trans (Ext.alloc _ _)).trans (Ext.alloc _ _))) (HY.out.ext ((((Ext.alloc _ _).trans (Ext.alloc _ _)).trans (Ext.alloc _ _)).trans (Ext.alloc _ _))) (by omega)).mono ?_
  rintro e w1 ⟨he, p, q, r, n0, v0, vs, rfl, t1, t2, t3, t4, t5, t6, t7⟩
  rw [show (bif isOne k then x else y) = y2 from HY2.out] at t2 t7
  simp only [World.size_alloc] at t5
  have hE : Ext w w1 := ((((Ext.alloc _ _).trans (Ext.alloc _ _)).trans (Ext.alloc _ _)).trans (Ext.alloc _ _)).trans he
  have hP : w1.heap[w.heap.size + 3]? = some (.cells #[.bool false, .slice none 0 0, .bool false, .slice none 0 0, .bool false, .slice none 0 0] 75 (0, 0)) := he.block (heap_fourth _ _ _ _ _)
  have HE := Lib.hid hE
  have HP := Lib.hid hP
  have T1 := Lib.hid t1
  have T2 := Lib.hid t2
  have T3 := Lib.hid t3
  have T4 := Lib.hid t4
  have T5 := Lib.hid t5
  have T6 := Lib.hid t6
  have T7 := Lib.hid t7
  clear hE hP he t1 t2 t3 t4 t5 t6 t7
  go_wp2_with fail
  refine (intAdd_z L x y2 p q r n0 v0 vs _ T3.out T4.out T1.out T2.out (by omega)).mono ?_
  rw [HRES.out]
  rintro e w2 ⟨rfl, hI', hU⟩
  have hE2 : Ext w w2 := hU.ext HE.out (fun i hi => by have := T5.out i hi; omega)
  have hP2 : w2.heap[w.heap.size + 3]? = _ := hU.heap HP.out (fun h => by have := T5.out _ h; omega)
  have hA : IntZ (L + 1) af w2 0 q := by
    have h6 := T6.out
    rw [← HAF.out, aftX]
    cases hh : isX k
    · rw [hh] at h6; exact (h6 w2 hU).more (by omega)
    · rw [hh] at h6; obtain rfl : q = p := h6; exact hI'
  have hB : IntZ (L + 1) bf w2 0 r := by
    have h7 := T7.out
    rw [← HBF.out, aftY]
    cases hh : isY k
    · rw [hh] at h7; exact (h7 w2 hU).more (by omega)
    · rw [hh] at h7; obtain rfl : r = p := h7; exact hI'
  clear hU
  have HI' := Lib.hid hI'
  have HE2 := Lib.hid hE2
  have HA := Lib.hid hA
  have hp1 := hP2
  have HP1 := Lib.hid hp1
  have HBB := Lib.hid hB
  clear hI' hE2 hA hB hP2 hp1
  go_wp2_with fail
  refine (triple_z (L + 1) rz af bf _ _ _ _ HI'.out HA.out HBB.out hL).mono ?_
  rintro e w3 ⟨he, v, rfl, n1, s1, n2, s2, n3, s3, rfl, g1, g2, g3⟩
  obtain ⟨m1, a1, l1, c1, e1⟩ := g1.form
  obtain ⟨m2, a2, l2, c2, e2⟩ := g2.form
  obtain ⟨m3, a3, l3, c3, e3⟩ := g3.form
  simp at e1 e2 e3
  obtain ⟨rfl, rfl⟩ := e1
  obtain ⟨rfl, rfl⟩ := e2
  obtain ⟨rfl, rfl⟩ := e3
  have hp2 := he.block HP1.out
  have d0 := blk_cell hp2 0
  have d1 := blk_cell hp2 1
  have d2 := blk_cell hp2 2
  have d3 := blk_cell hp2 3
  have d4 := blk_cell hp2 4
  have d5 := blk_cell hp2 5
  have f0 := blk_free hp2 0
  have f1 := blk_free hp2 1
  have f2 := blk_free hp2 2
  have f3 := blk_free hp2 3
  have f4 := blk_free hp2 4
  have f5 := blk_free hp2 5
  simp at d0 d1 d2 d3 d4 d5
  have G1 := Lib.hid g1
  have G2 := Lib.hid g2
  have G3 := Lib.hid g3
  have HP2 := Lib.hid hp2
  have HE3 := Lib.hid (HE2.out.trans he)
  clear g1 g2 g3 hp2 he
  go_wp2_with fail
  have hh := put6_heap HP2.out (.bool m1) (.slice a1 l1 c1) (.bool m2) (.slice a2 l2 c2) (.bool m3) (.slice a3 l3 c3)
  have hu := put6_upd w3 (w.heap.size + 3) (.bool m1) (.slice a1 l1 c1) (.bool m2) (.slice a2 l2 c2) (.bool m3) (.slice a3 l3 c3)
  exact bodyPost_ret (results_triple rfl _ rfl (blk_cell hh 0) (blk_cell hh 1) (blk_cell hh 2) (blk_cell hh 3) (blk_cell hh 4) (blk_cell hh 5)) rfl
    ⟨hu.ext HE3.out (by omega), _, rfl, _, _, _, _, _, _, rfl, G1.out.upd HP2.out (by decide) hu, G2.out.upd HP2.out (by decide) hu, G3.out.upd HP2.out (by decide) hu⟩

end Go.Proofs.YtocadbghhoibnaaFmt

/- laws.add, laws.sub, laws.signOf by values (printed by lawgen.py). -/
namespace Go.Proofs.YtocadbghhoibnaaFmt
open Go.RowKit

theorem implAdd_0 (L : Nat) (x y : Int) (Z X Y : Value) (w : World) (hZ : IsZ L 0 Z w) (hX : IsZ L x X w) (hY : IsZ L y Y w) (hL : L + 1 ≤ 17592186044416) :
    Calls Tryf.prog 48 #[.int .i64 0, Z, X, Y] w (ResR (IsT (L + 1) (x + y) x y) w) := by
  have h := implAdd_z 0 L 0 x y Z X Y w hZ hX hY hL
  rwa [show secZ 0 x y = y from rfl, show aftX 0 (x + y) x = x from rfl, show aftY 0 (x + y) y = y from rfl] at h

set_option maxHeartbeats 1000000 in
theorem add_z (L : Nat) (x y : Int) (x0 : Value) (x1 : Value) (w : World)  (hz0 : IsZ (L) (x) x0 w)  (hz1 : IsZ (L) (y) x1 w) (hL : L + 1 ≤ 17592186044416) :
    Calls Tryf.prog 23 #[x0, x1] w (ResR (IsC (L + 1) (x + y)) w) := by
  obtain ⟨n0, a0, l0, c0, rfl⟩ := hz0.form
  have HZ0 := Lib.hid hz0
  clear hz0
  obtain ⟨n1, a1, l1, c1, rfl⟩ := hz1.form
  have HZ1 := Lib.hid hz1
  clear hz1
  go_enter Tryf.func23, Tryf.ntmps23
  go_wp2_with fail
  refine wp_region_D preExt mixed [IsZ (0) (0), IsZ (L) (x), IsW (L) (x), IsZ (L) (y), IsW (L) (y), IsT ((L + 1)) (x + y) (x) (y), IsC ((L + 1)) (x + y), IsC ((L + 1)) (x + y)] (by kernel_rfl) ?mono rfl ?steps ?last
  case mono =>
    simp only [List.forall_mem_cons, List.not_mem_nil, false_implies, implies_true, and_true]
    refine ⟨?_, ?_, ?_, ?_, ?_, ?_, ?_, ?_⟩
    all_goals first | exact fun _ _ _ _ q => q | exact fun _ _ _ he q => q.ext he
  case steps =>
    refine ⟨?_, ?_, ?_, ?_, ?_, ?_, ?_, ?_, trivial⟩
    all_goals
      intro u0 u1 u2 u3 u4 u5 u6 u7 u8 w1 he hk
      simp [KnownD, Oper.looksAt, Op.operands, Call.operands, List.findIdx?_cons, Act.put] at hk
      simp only [Act.put, List.setIfInBounds_toArray, List.set_cons_succ, List.set_cons_zero]
    · go_wp2_with fail
      exact ⟨rfl, Ext.refl _, IsZ.zeroN _⟩
    · have hb := he.block ((Ext.alloc _ _).block ((Ext.alloc _ _).block (heap_alloc_new _ _)))
      have hc0 := blk_cell hb 0
      have hc1 := blk_cell hb 1
      simp at hc0 hc1
      clear hb
      go_wp2_with fail
      exact ⟨rfl, Ext.refl _, HZ0.out.ext ((((Ext.alloc _ _).trans (Ext.alloc _ _)).trans (Ext.alloc _ _)).trans he)⟩
    · have k0 := hk
      have H0 := Lib.hid k0
      clear k0
      go_wp2_with fail
      refine (toImpl_z (L) (x) _ _ (H0.out) (by omega)).mono ?_
      rintro e w2 ⟨he2, x, rfl, hx⟩
      have HX := Lib.hid hx
      clear hx
      go_wp2_with fail
      exact ⟨rfl, he2, HX.out⟩
    · have hb := he.block ((Ext.alloc _ _).block (heap_second _ _ _))
      have hc0 := blk_cell hb 0
      have hc1 := blk_cell hb 1
      simp at hc0 hc1
      clear hb
      go_wp2_with fail
      exact ⟨rfl, Ext.refl _, HZ1.out.ext ((((Ext.alloc _ _).trans (Ext.alloc _ _)).trans (Ext.alloc _ _)).trans he)⟩
    · have k0 := hk
      have H0 := Lib.hid k0
      clear k0
      go_wp2_with fail
      refine (toImpl_z (L) (y) _ _ (H0.out) (by omega)).mono ?_
      rintro e w2 ⟨he2, x, rfl, hx⟩
      have HX := Lib.hid hx
      clear hx
      go_wp2_with fail
      exact ⟨rfl, he2, HX.out⟩
    · obtain ⟨k0, k1, k2⟩ := hk
      have H1 := Lib.hid k0
      have H2 := Lib.hid k1
      have H3 := Lib.hid k2
      clear k0 k1 k2
      go_wp2_with fail
      refine (implAdd_0 L x y _ _ _ _ (H1.out.mono (by omega)) H2.out.z H3.out.z hL).mono ?_
      rintro e w2 ⟨he2, x, rfl, hx⟩
      have HX := Lib.hid hx
      clear hx
      go_wp2_with fail
      exact ⟨rfl, he2, HX.out⟩
    · have k0 := hk
      obtain ⟨m1, s1, m2, s2, m3, s3, rfl, t1, t2, t3⟩ := k0
      have hf := field_z m1 s1 m2 s2 m3 s3
      go_wp2_with fail
      exact ⟨rfl, Ext.refl _, t1⟩
    · have k0 := hk
      have H0 := Lib.hid k0
      clear k0
      go_wp2_with fail
      refine (fromImpl_z ((L + 1)) (x + y) _ _ H0.out).mono ?_
      rintro e w2 ⟨he2, x, rfl, hx⟩
      have HX := Lib.hid hx
      clear hx
      go_wp2_with fail
      exact ⟨rfl, he2, HX.out⟩
  case last =>
    intro w1 he u0 h0 u1 h1 u2 h2 u3 h3 u4 h4 u5 h5 u6 h6 u7 h7
    have hy : IsC (L + 1) (x + y) u7 w1 := h7
    clear h0 h1 h2 h3 h4 h5 h6 h7
    obtain ⟨m, aa, ll, cc, rfl⟩ := hy.form
    have hp : w1.heap[w.heap.size + 1 + 1]? = some (.cells #[.bool false, .slice none 0 0] 26 (0, 0)) := he.block (heap_third' _ _ _ _)
    have d0 := blk_cell hp 0
    have d1 := blk_cell hp 1
    have f0 := blk_free hp 0
    have f1 := blk_free hp 1
    simp at d0 d1
    have HP := Lib.hid hp
    have HY := Lib.hid hy
    have HE := Lib.hid ((((Ext.alloc _ _).trans (Ext.alloc _ _)).trans (Ext.alloc _ _)).trans he)
    clear hp hy he
    simp only [LastD, Act.put, List.setIfInBounds_toArray, List.set_cons_succ, List.set_cons_zero]
    go_wp2_with fail
    obtain ⟨e0, e1, hu⟩ := set2 HP.out (.bool m) (.slice aa ll cc)
    exact bodyPost_ret (results_laws rfl _ rfl e0 e1) rfl ⟨hu.ext HE.out (by omega), _, rfl, HY.out.upd HP.out (by decide) hu⟩

end Go.Proofs.YtocadbghhoibnaaFmt

/- nat.lsh: contract. -/
namespace Go.Proofs.YtocadbghhoibnaaFmt
open Go.RowKit

theorem put_front (c : Array Value) (l z : List Value) (q : Nat) (hz : z.length = q) (h : q + l.length ≤ c.size) : put (put c q l) 0 z = put c 0 (z ++ l) := by
  have hs := put_size c q l h
  apply array_ext
  intro j
  rcases Nat.lt_or_ge j q with h1 | h1
  · have a := put_in (put c q l) 0 z j (by omega) (by omega)
    have b := put_in c 0 (z ++ l) j (by omega) (by simp; omega)
    rw [Nat.zero_add] at a b
    rw [a, b, List.getElem?_append_left (by omega)]
  · obtain ⟨i, rfl⟩ : ∃ i, j = q + i := ⟨j - q, by omega⟩
    rw [put_past _ _ _ _ (by omega) (by omega)]
    rcases Nat.lt_or_ge i l.length with h2 | h2
    · have b := put_in c 0 (z ++ l) (q + i) (by omega) (by simp; omega)
      rw [Nat.zero_add] at b
      rw [put_in _ _ _ _ (by omega) h2, b, List.getElem?_append_right (by omega)]
      congr 1; omega
    · rw [put_past _ _ _ _ (by omega) (by omega), put_past _ _ _ _ (by omega) (by simp; omega)]

theorem zeroCells_word (n : Nat) : (Builtin.zeroCells #[Value.int .u64 0] n).toList = words .u64 (List.replicate n 0) := by
  apply List.ext_getElem?
  intro i
  simp [Builtin.zeroCells, words]
  by_cases h : i < n
  · simp [h, List.getElem?_replicate, Nat.mod_one]
  · simp [h, List.getElem?_replicate]

/-- 'clear(z[:n])' of words. -/
theorem run_clear_words (w : World) (ty : TypeId) (g n cap : Nat) (cur : Array Value) (T : TypeId) (hg : w.heap[g]? = some (.cells cur T (0, 0))) (hn : n ≤ cur.size) :
    ∃ w', (Builtin.clear_ #[80] ty #[.slice (some ⟨g, 0, none⟩) n cap]).run Tryf.prog w = .ok (.tuple #[]) w' ∧ Upd (· = g) w w' ∧ w'.heap[g]? = some (.cells (put cur 0 (words .u64 (List.replicate n 0))) T (0, 0)) := by
  refine ⟨w.setRow g (put cur 0 (words .u64 (List.replicate n 0))), ?_, updSetRow _ _ _, setRow_heap _ _ _ _ _ _ hg⟩
  have hz : (zeroValue 93).run Tryf.prog w = .ok (.int .u64 0) w := by kernel_rfl
  rcases Nat.eq_zero_or_pos n with rfl | hpos
  · rw [show words IntKind.u64 (List.replicate 0 0) = [] from rfl, put_nil, setRow_self w g cur T (0, 0) hg]
    simp [Builtin.clear_, run_underlying Tryf.underlying80]
  · obtain ⟨m, rfl⟩ : ∃ m, n = m + 1 := ⟨n - 1, by omega⟩
    have hst := run_storeCells_at (P := Tryf.prog) g 0 T (words .u64 (List.replicate (m + 1) 0)) 0 cur w hg (by rw [words_len]; simpa using hn) (words_one _ _)
    rw [Nat.zero_add, List.take_zero, List.nil_append] at hst
    simp [Builtin.clear_, run_underlying Tryf.underlying80, hz, Value.cells, zeroCells_word, hst, put]

theorem run_copy_words (w : World) (ty : TypeId) (g off dLen dCap : Nat) (ad : Addr) (sLen sCap : Nat) (cur : Array Value) (T : TypeId) (cs : List Value) (hg : w.heap[g]? = some (.cells cur T (0, 0))) (hn : cs.length = Nat.min sLen dLen) (hsrc : ∀ j v, cs[j]? = some v → w.cell? (ad.add j) = some v) (hfit : off + cs.length ≤ cur.size) (h1 : ∀ v ∈ cs, v.oneCell' = true) :
    ∃ w', (Builtin.copy_ #[80, 80] ty #[.slice (some ⟨g, off, none⟩) dLen dCap, .slice (some ad) sLen sCap]).run Tryf.prog w = .ok (goInt cs.length) w' ∧ Upd (· = g) w w' ∧ w'.heap[g]? = some (.cells (put cur off cs) T (0, 0)) :=
  ⟨_, run_copy_row (P := Tryf.prog) w 80 80 ty 93 g off dLen dCap ad sLen sCap cur T cs Tryf.underlying80 sizeWord hg hn hsrc hfit h1, updSetRow _ _ _, by rw [setRow_heap _ _ _ _ _ _ hg]; simp [put]⟩

theorem lsh_cell {w : World} {g q n : Nat} {cur : Array Value} {T : TypeId} {l : List Value} (hrow : w.heap[g]? = some (.cells (put cur q l) T (0, 0))) (hl : q + l.length ≤ n) (hn : n < cur.size) : w.cell? ⟨g, n, none⟩ = some (cur[n]'hn) := by
  rw [blk_cell hrow, put_past _ _ _ _ (by omega) hl]; exact Array.getElem?_eq_getElem hn

theorem lsh_set {w : World} {g q n c : Nat} {cur : Array Value} {T : TypeId} {ws : List Nat} (hrow : w.heap[g]? = some (.cells (put cur q (words .u64 ws)) T (0, 0))) (hl : q + ws.length = n) (hn : q + ws.length < cur.size) : (w.setCell ⟨g, n, none⟩ (.int .u64 (c : Nat))).heap[g]? = some (.cells (put cur q (words .u64 (ws ++ [c]))) T (0, 0)) := by
  rw [blk_setc hrow, words_app, show words IntKind.u64 [c] = [.int .u64 (c : Nat)] from rfl, ← put_set _ _ _ _ (by rw [words_len]; omega), words_len, hl]

theorem val_zeros (q : Nat) (ys : List Nat) : val (List.replicate q 0 ++ ys) = 18446744073709551616 ^ q * val ys := by
  induction q with
  | zero => simp
  | succ q ih =>
    rw [List.replicate_succ, List.cons_append, val, ih, Nat.pow_succ, Nat.mul_comm (18446744073709551616 ^ q) 18446744073709551616, Nat.mul_assoc]; omega

theorem mem_zeros {q : Nat} {ys : List Nat} (h : ∀ x ∈ ys, x < 18446744073709551616) : ∀ x ∈ List.replicate q 0 ++ ys, x < 18446744073709551616 :=
  mem_app (fun x hx => by rw [List.eq_of_mem_replicate hx]; decide) h

theorem lsh_total {s q r : Nat} (hq : s = 64 * q + r) (v : Nat) : 18446744073709551616 ^ q * (v * 2 ^ r) = v * 2 ^ s := by
  rw [pow64, hq, Nat.pow_add, ← Nat.mul_assoc, Nat.mul_comm (2 ^ (64 * q)) v, Nat.mul_assoc]

theorem lshVU_call (args : Array Value) (w : World) : (callFunc 106 args).run Tryf.prog w = .ok (.enter 65 args) w :=
  run_callFunc_twin (P := Tryf.prog) (fn := Tryf.f106) (tw := Tryf.f65) (twin := "math/big.lshVU_g") (by kernel_rfl) (by kernel_rfl) (by kernel_rfl) (by kernel_rfl) (by kernel_rfl) (by kernel_rfl) (by kernel_rfl) (by kernel_rfl) (by kernel_rfl) args w

set_option maxRecDepth 100000 in
set_option maxHeartbeats 2000000 in
theorem natLsh_r0 (v0 x : Value) (vs xs : List Nat) (s : Nat) (w : World) (hv : Own .u64 w 0 93 v0 vs) (hx : Own .u64 w 0 93 x xs) (hpos : 0 < xs.length) (hs : 0 < s) (hs2 : s < 18446744073709551616) (hl : xs.length + s / 64 + 1 ≤ 17592186044416) (hr : s % 64 ≤ 0) :
    Calls Tryf.prog 92 #[v0, x, .int .u64 (s : Nat)] w (NatVR v0 (val xs * 2 ^ s) (xs.length + s / 64 + 1) w) := by
  obtain ⟨a, c0, rfl⟩ := hv.form
  obtain ⟨gx, cx, curx, rfl, hcx1, hcx2, hgx, hsx, hxc⟩ := own_open hx hpos
  have hxb : ∀ q ∈ xs, q < 18446744073709551616 := hx.1
  obtain ⟨q, r, hqr, hrl⟩ : ∃ q r, s = 64 * q + r ∧ r < 64 := ⟨s / 64, s % 64, by omega, by omega⟩
  have hdiv : s / 64 = q := by omega
  have hmod : s % 64 = r := by omega
  rw [hdiv] at hl ⊢
  rw [hmod] at hr
  generalize hm : xs.length = m at *
  generalize hv0 : Value.slice a vs.length c0 = v0 at *
  obtain ⟨n, hn⟩ : ∃ n, n = m + q := ⟨_, rfl⟩
  have hsi : (s : Int) / 64 = (q : Int) := by omega
  have hsm : (s : Int) % 64 = (r : Int) := by omega
  have hni : (m : Int) + (q : Int) = (n : Int) := by omega
  have hnm : (n : Int) - (m : Int) = (q : Int) := by omega
  have HV0 := Lib.hid hv0
  have HM := Lib.hid hm
  have HV := Lib.hid hv
  have HXB := Lib.hid hxb
  have HXC0 := Lib.hid hxc
  have HGX := Lib.hid hgx
  have HQR := Lib.hid hqr
  have HN := Lib.hid hn
  have hnl : n + 1 ≤ 17592186044416 := by omega
  have hmn : m ≤ n := by omega
  have hqn : q ≤ n := by omega
  clear hv hx hxb hxc hgx hm hv0 hqr hdiv hmod hn
  have hb0 : ((s : Int) == 0) = false := by simp; omega
  have hbm : ((m : Int) == 0) = false := by simp; omega
  have hbr : ((r : Int) == 0) = true := by simp; omega
  go_enter Tryf.func92, Tryf.ntmps92
  go_wp2_with fail
  refine (make_any v0 _ (n + 1) _ _ HV.out.2 (by omega)).mono ?_
  rintro e w1 ⟨z, zs, rfl, hown, hor⟩
  obtain ⟨g, cap, cur, rfl, hcap1, hcap2, hg, hsz⟩ := row_open hown (by omega)
  have hext : Ext w w1 := by rcases hor with ⟨rfl, _⟩ | ⟨_, h⟩; exact Ext.refl _; exact h
  have HXC := Lib.hid (fun i (hi : i < m) => hext.cell (HXC0.out i hi))
  have HMK := Lib.hid (MakeR.upd hor)
  have HG := Lib.hid hg
  clear hown hor hext hg HXC0
  have hcq : ¬ (cap = q) := by omega
  have hcn : n ≤ cap := by omega
  have hcn1 : n < cap := by omega

  have hgen : ∀ (ys : List Nat) (wy : World), ys.length = m + 1 → (∀ y ∈ ys, y < 18446744073709551616) → val ys = val xs * 2 ^ r → Upd (· = g) w1 wy → wy.heap[g]? = some (.cells (put (put cur q (words .u64 ys)) 0 (words .u64 (List.replicate q 0))) 93 (0, 0)) →
      Own .u64 wy 0 93 (.slice (some ⟨g, 0, none⟩) (n + 1) cap) (List.replicate q 0 ++ ys) ∧ val (norm (List.replicate q 0 ++ ys)) = val xs * 2 ^ s ∧ (norm (List.replicate q 0 ++ ys)).length ≤ m + q + 1 := by
    intro ys wy hyl hyb hyv hu hrow
    have hnn := HN.out
    rw [put_front _ _ _ _ (by rw [words_len]; simp) (by rw [words_len]; omega), ← words_app] at hrow
    have hlen : (List.replicate q 0 ++ ys).length = n + 1 := by simp; omega
    refine ⟨?_, ?_, ?_⟩
    · have := own_put hrow (cap := cap) hsz (by omega) (by omega) (mem_zeros hyb)
      rwa [hlen] at this
    · rw [val_norm, val_zeros, hyv, lsh_total HQR.out]
    · have := norm_length_le (List.replicate q 0 ++ ys); omega
  have HGEN := Lib.hid hgen
  clear hgen
  have hsrc : ∀ j v, (words .u64 xs)[j]? = some v → w1.cell? ((⟨gx, 0, none⟩ : Addr).add j) = some v := by
    intro j v hj
    have hjl : j < xs.length := by have := (List.getElem?_eq_some_iff.1 hj).1; rwa [words_len] at this
    have := HXC.out j (by have := HM.out; omega)
    rw [Addr.add_lit, this, ← hj, words_get, List.getElem?_eq_getElem hjl, List.getD_eq_getElem?_getD, List.getElem?_eq_getElem hjl]
    rfl
  have HSRC := Lib.hid hsrc
  clear hsrc
  have hnq : n - q = m := by have := HN.out; omega
  have HNQ := Lib.hid hnq
  clear hnq
  have HYB : Hid (∀ y ∈ xs ++ [0], y < 18446744073709551616) := Lib.hid (mem_snoc HXB.out (by decide))
  have HYL : Hid ((xs ++ [0]).length = m + 1) := Lib.hid (by simp [HM.out])
  have HYV : Hid (val (xs ++ [0]) = val xs * 2 ^ r) := Lib.hid (by rw [val_snoc]; (obtain rfl : r = 0 := (by omega)); simp)
  obtain ⟨wa, hcopy, hua, hrowa⟩ := run_copy_words w1 3 g q (n - q) (cap - q) ⟨gx, 0, none⟩ m cx cur 93 (words .u64 xs) HG.out (by rw [words_len, HNQ.out, HM.out]; exact (Nat.min_self _).symm) HSRC.out (by rw [words_len, HM.out]; have := HN.out; omega) (words_one _ _)
  obtain ⟨zn, hzn⟩ : ∃ zn, wa.cell? ⟨g, n, none⟩ = some zn := ⟨_, lsh_cell hrowa (by rw [words_len, HM.out]; have := HN.out; omega) (by omega)⟩
  have hfn := blk_free hrowa n
  obtain ⟨wy, hclear, huy, hrowy⟩ := run_clear_words (wa.setCell ⟨g, n, none⟩ (.int .u64 ((0 : Nat) : Int))) 0 g q cap _ 93 (lsh_set hrowa (ws := xs) (c := 0) (by rw [HM.out]; have := HN.out; omega) (by rw [HM.out]; have := HN.out; omega)) (by rw [put_size _ _ _ (by rw [words_len]; simp [HM.out]; have := HN.out; omega)]; omega)
  rw [show ((0 : Nat) : Int) = 0 from rfl] at hclear
  have HUA := Lib.hid hua
  have HUY := Lib.hid huy
  have HROWY := Lib.hid hrowy
  clear hua hrowa huy hrowy
  go_wp2_with fail
  clear hclear hzn hfn
  have huz : Upd (· = g) w1 wy := (HUA.out.same ((Upd.refl _ _).setCell (by rfl) _)).same HUY.out
  obtain ⟨k1, k2, k3⟩ := HGEN.out (xs ++ [0]) wy HYL.out HYB.out HYV.out huz HROWY.out
  have HK1 := Lib.hid k1
  have HK2 := Lib.hid k2
  have HK3 := Lib.hid (nat_done (v0 := v0) (w := w) HMK.out huz)
  clear k1 k2 huz
  refine (norm_own 0 93 _ _ _ HK1.out).mono ?_
  rintro e wn ⟨⟨v', rfl, ho, hob⟩, rfl⟩
  obtain ⟨a', c', rfl⟩ := ho.form
  have HO := Lib.hid ho
  have HOB := Lib.hid hob
  clear ho hob
  go_wp2_with fail
  go_ret
  exact ⟨_, norm_norm _, HK2.out, k3, _, rfl, HO.out, HK3.out.1, HK3.out.2 _ HOB.out⟩

set_option maxRecDepth 100000 in
set_option maxHeartbeats 2000000 in
theorem natLsh_rp (v0 x : Value) (vs xs : List Nat) (s : Nat) (w : World) (hv : Own .u64 w 0 93 v0 vs) (hx : Own .u64 w 0 93 x xs) (hpos : 0 < xs.length) (hs : 0 < s) (hs2 : s < 18446744073709551616) (hl : xs.length + s / 64 + 1 ≤ 17592186044416) (hr : 0 < s % 64) :
    Calls Tryf.prog 92 #[v0, x, .int .u64 (s : Nat)] w (NatVR v0 (val xs * 2 ^ s) (xs.length + s / 64 + 1) w) := by
  obtain ⟨a, c0, rfl⟩ := hv.form
  obtain ⟨gx, cx, curx, rfl, hcx1, hcx2, hgx, hsx, hxc⟩ := own_open hx hpos
  have hxb : ∀ q ∈ xs, q < 18446744073709551616 := hx.1
  obtain ⟨q, r, hqr, hrl⟩ : ∃ q r, s = 64 * q + r ∧ r < 64 := ⟨s / 64, s % 64, by omega, by omega⟩
  have hdiv : s / 64 = q := by omega
  have hmod : s % 64 = r := by omega
  rw [hdiv] at hl ⊢
  rw [hmod] at hr
  generalize hm : xs.length = m at *
  generalize hv0 : Value.slice a vs.length c0 = v0 at *
  obtain ⟨n, hn⟩ : ∃ n, n = m + q := ⟨_, rfl⟩
  have hsi : (s : Int) / 64 = (q : Int) := by omega
  have hsm : (s : Int) % 64 = (r : Int) := by omega
  have hni : (m : Int) + (q : Int) = (n : Int) := by omega
  have hnm : (n : Int) - (m : Int) = (q : Int) := by omega
  have HV0 := Lib.hid hv0
  have HM := Lib.hid hm
  have HV := Lib.hid hv
  have HXB := Lib.hid hxb
  have HXC0 := Lib.hid hxc
  have HGX := Lib.hid hgx
  have HQR := Lib.hid hqr
  have HN := Lib.hid hn
  have hnl : n + 1 ≤ 17592186044416 := by omega
  have hmn : m ≤ n := by omega
  have hqn : q ≤ n := by omega
  clear hv hx hxb hxc hgx hm hv0 hqr hdiv hmod hn
  have hb0 : ((s : Int) == 0) = false := by simp; omega
  have hbm : ((m : Int) == 0) = false := by simp; omega
  have hbr : ((r : Int) == 0) = false := by simp; omega
  go_enter Tryf.func92, Tryf.ntmps92
  go_wp2_with fail
  refine (make_any v0 _ (n + 1) _ _ HV.out.2 (by omega)).mono ?_
  rintro e w1 ⟨z, zs, rfl, hown, hor⟩
  obtain ⟨g, cap, cur, rfl, hcap1, hcap2, hg, hsz⟩ := row_open hown (by omega)
  have hext : Ext w w1 := by rcases hor with ⟨rfl, _⟩ | ⟨_, h⟩; exact Ext.refl _; exact h
  have HXC := Lib.hid (fun i (hi : i < m) => hext.cell (HXC0.out i hi))
  have HMK := Lib.hid (MakeR.upd hor)
  have HG := Lib.hid hg
  clear hown hor hext hg HXC0
  have hcq : ¬ (cap = q) := by omega
  have hcn : n ≤ cap := by omega
  have hcn1 : n < cap := by omega

  have hgen : ∀ (ys : List Nat) (wy : World), ys.length = m + 1 → (∀ y ∈ ys, y < 18446744073709551616) → val ys = val xs * 2 ^ r → Upd (· = g) w1 wy → wy.heap[g]? = some (.cells (put (put cur q (words .u64 ys)) 0 (words .u64 (List.replicate q 0))) 93 (0, 0)) →
      Own .u64 wy 0 93 (.slice (some ⟨g, 0, none⟩) (n + 1) cap) (List.replicate q 0 ++ ys) ∧ val (norm (List.replicate q 0 ++ ys)) = val xs * 2 ^ s ∧ (norm (List.replicate q 0 ++ ys)).length ≤ m + q + 1 := by
    intro ys wy hyl hyb hyv hu hrow
    have hnn := HN.out
    rw [put_front _ _ _ _ (by rw [words_len]; simp) (by rw [words_len]; omega), ← words_app] at hrow
    have hlen : (List.replicate q 0 ++ ys).length = n + 1 := by simp; omega
    refine ⟨?_, ?_, ?_⟩
    · have := own_put hrow (cap := cap) hsz (by omega) (by omega) (mem_zeros hyb)
      rwa [hlen] at this
    · rw [val_norm, val_zeros, hyv, lsh_total HQR.out]
    · have := norm_length_le (List.replicate q 0 ++ ys); omega
  have HGEN := Lib.hid hgen
  clear hgen
  have hcall := lshVU_call
  have hnq : n - q = m := by have := HN.out; omega
  have HYB : Hid (∀ y ∈ shlL r 0 xs ++ [shlC r 0 xs], y < 18446744073709551616) := Lib.hid (mem_snoc (shl_lt r 0 (by omega) xs (Nat.pow_pos (by decide)) HXB.out) (by rw [shlC_eq r 0 xs (by rw [HM.out]; omega)]; exact Nat.lt_of_le_of_lt (Nat.div_le_self _ _) (getD_lt HXB.out (by omega) _)))
  have HYL : Hid ((shlL r 0 xs ++ [shlC r 0 xs]).length = m + 1) := Lib.hid (by simp [shl_len, HM.out])
  have HYV : Hid (val (shlL r 0 xs ++ [shlC r 0 xs]) = val xs * 2 ^ r) := Lib.hid (by rw [val_snoc, shl_len, shl_val r 0 (by omega) xs]; rfl)
  go_wp2_with fail
  clear hcall
  refine (lshVU_any g q (cap - q) gx 0 cx m r cur 93 xs _ HG.out (by have := HN.out; omega) (by omega) (by omega) (by omega) (by omega) HM.out HXB.out HXC.out (fun _ => Nat.zero_le _)).mono ?_
  rintro e wa ⟨rfl, hua, hrowa⟩
  have hzn : ∃ zn, wa.cell? ⟨g, n, none⟩ = some zn := ⟨_, lsh_cell hrowa (by rw [words_len, shl_len, HM.out]; have := HN.out; omega) (by omega)⟩
  obtain ⟨zn, hzn⟩ := hzn
  have hfn := blk_free hrowa n
  have HUA := Lib.hid hua
  have HROWA := Lib.hid hrowa
  clear hua hrowa
  obtain ⟨wy, hclear, huy, hrowy⟩ := run_clear_words (wa.setCell ⟨g, n, none⟩ (.int .u64 (shlC r 0 xs : Nat))) 0 g q cap _ 93 (lsh_set HROWA.out (ws := shlL r 0 xs) (c := shlC r 0 xs) (by rw [shl_len, HM.out]; have := HN.out; omega) (by rw [shl_len, HM.out]; have := HN.out; omega)) (by rw [put_size _ _ _ (by rw [words_len]; simp [shl_len, HM.out]; have := HN.out; omega)]; omega)
  have HUY := Lib.hid huy
  have HROWY := Lib.hid hrowy
  clear huy hrowy
  go_wp2_with fail
  clear hclear hzn hfn
  have huz : Upd (· = g) w1 wy := (HUA.out.same ((Upd.refl _ _).setCell (by rfl) _)).same HUY.out
  obtain ⟨k1, k2, k3⟩ := HGEN.out (shlL r 0 xs ++ [shlC r 0 xs]) wy HYL.out HYB.out HYV.out huz HROWY.out
  have HK1 := Lib.hid k1
  have HK2 := Lib.hid k2
  have HK3 := Lib.hid (nat_done (v0 := v0) (w := w) HMK.out huz)
  clear k1 k2 huz
  refine (norm_own 0 93 _ _ _ HK1.out).mono ?_
  rintro e wn ⟨⟨v', rfl, ho, hob⟩, rfl⟩
  obtain ⟨a', c', rfl⟩ := ho.form
  have HO := Lib.hid ho
  have HOB := Lib.hid hob
  clear ho hob
  go_wp2_with fail
  go_ret
  exact ⟨_, norm_norm _, HK2.out, k3, _, rfl, HO.out, HK3.out.1, HK3.out.2 _ HOB.out⟩

set_option maxHeartbeats 1000000 in
theorem natLsh_m0 (v0 x : Value) (vs : List Nat) (s : Nat) (w : World) (hv : Own .u64 w 0 93 v0 vs) (hx : Own .u64 w 0 93 x []) (hs : 0 < s) :
    Calls Tryf.prog 92 #[v0, x, .int .u64 (s : Nat)] w (NatVR v0 0 0 w) := by
  obtain ⟨a, c, rfl⟩ := hv.form
  obtain ⟨ax, cx, rfl⟩ := hx.form
  obtain ⟨_, k1, k2⟩ := hv.cap
  have hfin : NatVR (.slice a vs.length c) 0 0 w (.returned (.slice a 0 c)) w := ⟨[], rfl, rfl, by simp, _, rfl, hv.cut, Upd.refl _ _, .inl (by cases a <;> rfl)⟩
  have HF := Lib.hid hfin
  have hb0 : ((s : Int) == 0) = false := by simp; omega
  clear hv hx hfin
  go_enter Tryf.func92, Tryf.ntmps92
  go_wp2_with fail
  go_ret
  exact HF.out

theorem eqWordSame (a : Addr) (w : World) : (binOp .eql 143 (.pointer (some a)) (.pointer (some a))).run Tryf.prog w = .ok (.bool true) w := by
  obtain ⟨j, h1, h2⟩ := Option.map_eq_some_iff.1 sizeWord
  have h : ∀ d : Nat, (Op.equalIn (d + 1) 143 (.pointer (some a)) (.pointer (some a))).run Tryf.prog w = .ok true w := fun d => by
    simp [Op.equalIn, run_underlying Tryf.underlying143, sizeOf, typeInfo, h1, h2, run_sameAddr_same]
  simp only [binOp]
  simp [Op.equal, Op.maxDepth, h 9999]

theorem eqWordOther {p q a b : Nat} (hpq : p ≠ q) {w : World} {c d : Array Value} {T U : TypeId} (hp : w.heap[p]? = some (.cells c T (0, 0))) (hq : w.heap[q]? = some (.cells d U (0, 0))) :
    (binOp .eql 143 (.pointer (some ⟨p, a, none⟩)) (.pointer (some ⟨q, b, none⟩))).run Tryf.prog w = .ok (.bool false) w := by
  obtain ⟨j, h1, h2⟩ := Option.map_eq_some_iff.1 sizeWord
  have h : ∀ d : Nat, (Op.equalIn (d + 1) 143 (.pointer (some ⟨p, a, none⟩)) (.pointer (some ⟨q, b, none⟩))).run Tryf.prog w = .ok false w := fun d => by
    simp [Op.equalIn, run_underlying Tryf.underlying143, sizeOf, typeInfo, h1, h2, run_sameAddr_other w (a := ⟨p, a, none⟩) (b := ⟨q, b, none⟩) (by simp [hpq]) hp hq]
  simp only [binOp]
  simp [Op.equal, Op.maxDepth, h 9999]

/-- A plain bool comes back; the order of reading was drawn. -/
def BoolQ (b : Bool) (w : World) (e : Ending) (w' : World) : Prop := e = .returned (.bool b) ∧ ∃ n, w' = w.drewN n

set_option maxHeartbeats 1000000 in
theorem same_true (g m c : Nat) (w : World) (hm : 0 < m) (hmc : m ≤ 9223372036854775807) :
    Calls Tryf.prog 104 #[.slice (some ⟨g, 0, none⟩) m c, .slice (some ⟨g, 0, none⟩) m c] w (BoolQ true w) := by
  have heq := eqWordSame ⟨g, 0, none⟩
  have h0 : (0 : Int) < (m : Int) := by omega
  have hb : ((m : Int) == (m : Int)) = true := by simp
  go_enter Tryf.func104, Tryf.ntmps104
  go_wp2_with fail
  go_quiet (fail)
  go_wp2_with fail
  go_ret
  exact ⟨rfl, _, rfl⟩

set_option maxHeartbeats 1000000 in
theorem same_len (a b : Option Addr) (m n c d : Nat) (w : World) (hmn : m ≠ n) (hm : m ≤ 9223372036854775807) (hn : n ≤ 9223372036854775807) :
    Calls Tryf.prog 104 #[.slice a m c, .slice b n d] w (BoolQ false w) := by
  have hb : ((m : Int) == (n : Int)) = false := by simp; omega
  go_enter Tryf.func104, Tryf.ntmps104
  go_wp2_with fail
  go_quiet (fail)
  go_wp2_with fail
  go_ret
  exact ⟨rfl, _, rfl⟩

set_option maxHeartbeats 1000000 in
theorem same_zero (a b : Option Addr) (c d : Nat) (w : World) :
    Calls Tryf.prog 104 #[.slice a 0 c, .slice b 0 d] w (BoolQ false w) := by
  go_enter Tryf.func104, Tryf.ntmps104
  go_wp2_with fail
  go_quiet (fail)
  go_wp2_with fail
  go_ret
  exact ⟨rfl, _, rfl⟩

set_option maxHeartbeats 1000000 in
theorem same_other (g h m c d : Nat) (w : World) (hgh : g ≠ h) (hm : 0 < m) (hmc : m ≤ 9223372036854775807) (C D : Array Value) (T U : TypeId) (hg : w.heap[g]? = some (.cells C T (0, 0))) (hh : w.heap[h]? = some (.cells D U (0, 0))) :
    Calls Tryf.prog 104 #[.slice (some ⟨g, 0, none⟩) m c, .slice (some ⟨h, 0, none⟩) m d] w (BoolQ false w) := by
  have heq := fun n => eqWordOther (a := 0) (b := 0) (w := w.drewN n) hgh hg hh
  have h0 : (0 : Int) < (m : Int) := by omega
  have hb : ((m : Int) == (m : Int)) = true := by simp
  clear hg hh
  go_enter Tryf.func104, Tryf.ntmps104
  go_wp2_with fail
  go_quiet (fail)
  go_wp2_with fail
  go_ret
  exact ⟨rfl, _, rfl⟩

set_option maxHeartbeats 1000000 in
theorem alias_none1 (a b : Option Addr) (m n d : Nat) (w : World) :
    Calls Tryf.prog 105 #[.slice a m 0, .slice b n d] w (BoolQ false w) := by
  go_enter Tryf.func105, Tryf.ntmps105
  go_wp2_with fail
  go_quiet (fail)
  go_wp2_with fail
  go_ret
  exact ⟨rfl, _, rfl⟩

set_option maxHeartbeats 1000000 in
theorem alias_none2 (a b : Option Addr) (m n c : Nat) (w : World) (hc : 0 < c) (hcl : c ≤ 9223372036854775807) :
    Calls Tryf.prog 105 #[.slice a m c, .slice b n 0] w (BoolQ false w) := by
  have h0 : (0 : Int) < (c : Int) := by omega
  have hd : decide ((0 : Int) < (c : Int)) = true := by simp [hc]
  go_enter Tryf.func105, Tryf.ntmps105
  go_wp2_with fail
  go_quiet (fail)
  go_wp2_with fail
  go_ret
  exact ⟨rfl, _, rfl⟩

set_option maxHeartbeats 1000000 in
theorem alias_both (g h m n c d : Nat) (b : Bool) (w : World) (hc : 0 < c) (hcl : c ≤ 9223372036854775807) (hd : 0 < d) (hdl : d ≤ 9223372036854775807) (heq : ∀ k, (binOp .eql 143 (.pointer (some ⟨g, c - 1, none⟩)) (.pointer (some ⟨h, d - 1, none⟩))).run Tryf.prog (w.drewN k) = .ok (.bool b) (w.drewN k)) :
    Calls Tryf.prog 105 #[.slice (some ⟨g, 0, none⟩) m c, .slice (some ⟨h, 0, none⟩) n d] w (BoolQ b w) := by
  have h0 : (0 : Int) < (c : Int) := by omega
  have h1 : (0 : Int) < (d : Int) := by omega
  have hc0 : ¬ (c = 0) := by omega
  have hd0 : ¬ (d = 0) := by omega
  have i1 : (1 : Int) ≤ (c : Int) := by omega
  have i2 : (1 : Int) ≤ (d : Int) := by omega
  have i3 : IntKind.i64.wrap ((c : Int) - 1) = (c : Int) - 1 := IntWalk.i64_in _ (by omega)
  have i4 : IntKind.i64.wrap ((d : Int) - 1) = (d : Int) - 1 := IntWalk.i64_in _ (by omega)
  have i5 : ((c : Int) - 1).toNat = c - 1 := by omega
  have i6 : ((d : Int) - 1).toNat = d - 1 := by omega
  have i7 : (0 : Int) ≤ (c : Int) - 1 := by omega
  have i8 : (0 : Int) ≤ (d : Int) - 1 := by omega
  have i9 : (c : Int) - 1 < (c : Int) := by omega
  have i10 : (d : Int) - 1 < (d : Int) := by omega
  go_enter Tryf.func105, Tryf.ntmps105
  go_wp2_with fail
  go_quiet (fail)
  go_wp2_with fail
  go_ret
  exact ⟨rfl, _, rfl⟩

end Go.Proofs.YtocadbghhoibnaaFmt
