/- (*Int).Add, (*Int).Sub: contracts (printed by genint.py). -/
import Derived.Test.YtacmojhladdalaaNatAdd
import Derived.Test.YtacmojhladdalaaCmp2
import Derived.Test.YtacmojhladdalaaTwo
set_option linter.unusedSimpArgs false
set_option linter.unusedVariables false
namespace Go.Proofs.Ytacmojhladdalaa
open Go.RowKit

/-- What a sum leaves: the Int at p has the words of value t and the sign neg. -/
def SumR (p : Nat) (v0 : Value) (t L : Nat) (neg : Bool) (w : World) (e : Ending) (w' : World) : Prop :=
  e = .returned (.pointer (some ⟨p, 0, none⟩)) ∧ ∃ ws, IntAt w' 0 p (decide (0 < ws.length) && neg) ws ∧ norm ws = ws ∧ val ws = t ∧ ws.length ≤ L ∧ Upd (fun k => k = p ∨ v0.ownBlock = some k) w w'

set_option maxRecDepth 100000 in
set_option maxHeartbeats 2000000 in
theorem intAdd_A (p q r : Nat) (n0 nx ny : Bool) (v0 sx sy : Value) (vs xs ys : List Nat) (L : Nat) (w : World) (hp : w.heap[p]? = some (.cells #[.bool n0, v0] 70 (0, 0))) (hq : w.heap[q]? = some (.cells #[.bool nx, sx] 70 (0, 0))) (hr : w.heap[r]? = some (.cells #[.bool ny, sy] 70 (0, 0))) (hv : Own .u64 w 0 80 v0 vs) (hx : Own .u64 w 0 80 sx xs) (hy : Own .u64 w 0 80 sy ys) (hnx : norm xs = xs) (hny : norm ys = ys) (hL : L ≤ 17592186044416) (hlx : xs.length ≤ L) (hly : ys.length ≤ L) (ht : nx = ny) :
    Calls Try.prog 42 #[.pointer (some ⟨p, 0, none⟩), .pointer (some ⟨q, 0, none⟩), .pointer (some ⟨r, 0, none⟩)] w (SumR p v0 (val xs + val ys) (L + 1) (nx) w) := by
  have hnp := hv.not hp (by decide)
  have hnq := hv.not hq (by decide)
  have hnr := hv.not hr (by decide)
  have hcq := blk_cell hq 0
  have hcr := blk_cell hr 0
  simp at hcq hcr
  have htest : (nx == ny) = true := by cases nx <;> cases ny <;> simp at ht ⊢
  obtain ⟨a0, c0, rfl⟩ := hv.form
  obtain ⟨ax, cx, rfl⟩ := hx.form
  obtain ⟨ay, cy, rfl⟩ := hy.form
  generalize hv0 : Value.slice a0 vs.length c0 = v0 at *
  generalize hsx : Value.slice ax xs.length cx = sx at *
  generalize hsy : Value.slice ay ys.length cy = sy at *
  have HP0 := Lib.hid hp
  have HQ0 := Lib.hid hq
  have HR0 := Lib.hid hr
  have HV0 := Lib.hid hv
  have HX0 := Lib.hid hx
  have HY0 := Lib.hid hy
  have HNX := Lib.hid hnx
  have HNY := Lib.hid hny
  have HNP := Lib.hid hnp
  have HNQ := Lib.hid hnq
  have HNR := Lib.hid hnr
  have HFX := Lib.hid hsx
  have HFY := Lib.hid hsy
  have HFV := Lib.hid hv0
  clear hp hq hr hv hx hy hnx hny hnp hnq hnr ht hsx hsy hv0
  go_enter Try.func42, Try.ntmps42
  go_wp2_with fail
  go_quiet (fail)
  have hE0 : Ext w (w.drewN nq) := Ext.drewN w nq
  clear hcq hcr
  generalize w.drewN nq = w1 at *
  have HE0 := Lib.hid hE0
  clear hE0
  go_wp2_with fail
  have HP := Lib.hid (HE0.out.block HP0.out)
  have HQ := Lib.hid (HE0.out.block HQ0.out)
  have HR := Lib.hid (HE0.out.block HR0.out)
  have HUW : Hid (Upd (fun k => v0.ownBlock = some k) w w1) := Lib.hid HE0.out.upd
  refine wp_region_H preExt (preUpd (fun k => v0.ownBlock = some k)) (fun _ _ h => h.upd) 13 mixed [Is (.pointer (some ⟨p, 0, none⟩)), Is (.pointer (some ⟨p, 0, none⟩)), Is (.pointer (some ⟨p, 0, none⟩)), Is (.pointer (some ⟨p, 1, none⟩)), Is v0, Is (.pointer (some ⟨q, 0, none⟩)), Is (.pointer (some ⟨q, 0, none⟩)), Is (.pointer (some ⟨q, 1, none⟩)), Is sx, Is (.pointer (some ⟨r, 0, none⟩)), Is (.pointer (some ⟨r, 0, none⟩)), Is (.pointer (some ⟨r, 1, none⟩)), Is sy, NatD v0 (val xs + val ys) (L + 1) w1, Is (.pointer (some ⟨p, 0, none⟩)), Is (.pointer (some ⟨p, 1, none⟩))] (by kernel_rfl) ?mono ?monoU rfl ?steps ?last
  case mono =>
    simp only [List.forall_mem_cons, List.not_mem_nil, false_implies, implies_true, and_true]
    refine ⟨?_, ?_, ?_, ?_, ?_, ?_, ?_, ?_, ?_, ?_, ?_, ?_, ?_, ?_, ?_, ?_⟩
    all_goals first | exact fun _ _ _ _ q => q | exact fun _ _ _ he q => q.ext he
  case monoU =>
    intro j hj
    match j, hj with
    | 0, _ => exact fun _ _ _ _ q => q
    | 1, _ => exact fun _ _ _ _ q => q
    | 2, _ => exact fun _ _ _ _ q => q
    | 3, _ => exact fun _ _ _ _ q => q
    | 4, _ => exact fun _ _ _ _ q => q
    | 5, _ => exact fun _ _ _ _ q => q
    | 6, _ => exact fun _ _ _ _ q => q
    | 7, _ => exact fun _ _ _ _ q => q
    | 8, _ => exact fun _ _ _ _ q => q
    | 9, _ => exact fun _ _ _ _ q => q
    | 10, _ => exact fun _ _ _ _ q => q
    | 11, _ => exact fun _ _ _ _ q => q
    | 12, _ => exact fun _ _ _ _ q => q
    | 13, h => exact absurd rfl h
    | 14, _ => exact fun _ _ _ _ q => q
    | 15, _ => exact fun _ _ _ _ q => q
    | j + 16, _ => exact fun _ _ _ _ q => trivial
  case steps =>
    refine ⟨?_, ?_, ?_, ?_, ?_, ?_, ?_, ?_, ?_, ?_, ?_, ?_, ?_, ?_, ?_, ?_, trivial⟩
    all_goals
      intro u0 u1 u2 u3 u4 u5 u6 u7 u8 u9 u10 u11 u12 u13 u14 u15 u16 w9 he hk
      simp [KnownD, Oper.looksAt, Op.operands, Call.operands, List.findIdx?_cons, Act.put] at hk
      simp only [Act.put, List.setIfInBounds_toArray, List.set_cons_succ, List.set_cons_zero]
    · go_wp2_with fail
      exact ⟨rfl, Ext.refl _, rfl⟩
    · go_wp2_with fail
      exact ⟨rfl, Ext.refl _, rfl⟩
    · obtain rfl : u1 = _ := hk
      go_wp2_with fail
      exact ⟨rfl, Ext.refl _, rfl⟩
    · obtain rfl : u2 = _ := hk
      go_wp2_with fail
      exact ⟨rfl, Ext.refl _, rfl⟩
    · obtain rfl : u3 = _ := hk
      have he' : Upd (fun k => v0.ownBlock = some k) w1 w9 := he
      have hc : w9.cell? ⟨p, 1, none⟩ = some v0 := by rw [blk_cell (he'.heap HP.out HNP.out)]; rfl
      go_wp2_with fail
      exact ⟨rfl, Ext.refl _, rfl⟩
    · go_wp2_with fail
      exact ⟨rfl, Ext.refl _, rfl⟩
    · obtain rfl : u5 = _ := hk
      go_wp2_with fail
      exact ⟨rfl, Ext.refl _, rfl⟩
    · obtain rfl : u6 = _ := hk
      go_wp2_with fail
      exact ⟨rfl, Ext.refl _, rfl⟩
    · obtain rfl : u7 = _ := hk
      have he' : Upd (fun k => v0.ownBlock = some k) w1 w9 := he
      have hc : w9.cell? ⟨q, 1, none⟩ = some sx := by rw [blk_cell (he'.heap HQ.out HNQ.out)]; rfl
      go_wp2_with fail
      exact ⟨rfl, Ext.refl _, rfl⟩
    · go_wp2_with fail
      exact ⟨rfl, Ext.refl _, rfl⟩
    · obtain rfl : u9 = _ := hk
      go_wp2_with fail
      exact ⟨rfl, Ext.refl _, rfl⟩
    · obtain rfl : u10 = _ := hk
      go_wp2_with fail
      exact ⟨rfl, Ext.refl _, rfl⟩
    · obtain rfl : u11 = _ := hk
      have he' : Upd (fun k => v0.ownBlock = some k) w1 w9 := he
      have hc : w9.cell? ⟨r, 1, none⟩ = some sy := by rw [blk_cell (he'.heap HR.out HNR.out)]; rfl
      go_wp2_with fail
      exact ⟨rfl, Ext.refl _, rfl⟩
    · obtain ⟨k0, k1, k2⟩ := hk
      have e0 : u4 = v0 := k0
      have e1 : u8 = sx := k1
      have e2 : u12 = sy := k2
      clear k0 k1 k2
      subst u4 u8 u12
      have he' : Ext w1 w9 := he
      have HE9 := Lib.hid he'
      clear he he'
      go_wp2_with fail
      refine (natAdd_any _ _ _ vs xs ys _ (HV0.out.ext (HE0.out.trans HE9.out)) (HX0.out.ext (HE0.out.trans HE9.out)) (HY0.out.ext (HE0.out.trans HE9.out)) HNX.out HNY.out L hL hlx hly).mono ?_
      rintro e w8 ⟨ws, g1, g2, g3, v', rfl, g4, g5, g6⟩
      have HD := Lib.hid (show NatD v0 (val xs + val ys) (L + 1) w1 v' w8 from ⟨ws, g1, g2, g3, g4, (HE9.out.upd).same g5⟩)
      have HU8 := Lib.hid g5
      clear g1 g2 g4 g5 g6
      go_wp2_with fail
      exact ⟨rfl, HU8.out, HD.out⟩
    · obtain rfl : u0 = _ := hk
      go_wp2_with fail
      exact ⟨rfl, Ext.refl _, rfl⟩
    · obtain rfl : u14 = _ := hk
      go_wp2_with fail
      exact ⟨rfl, Ext.refl _, rfl⟩
  case last =>
    intro w3 he u0 h0 u1 h1 u2 h2 u3 h3 u4 h4 u5 h5 u6 h6 u7 h7 u8 h8 u9 h9 u10 h10 u11 h11 u12 h12 u13 h13 u14 h14 u15 h15
    obtain rfl : u15 = _ := h15
    obtain ⟨ws, g1, g2, g3, g4, g5⟩ := h13
    clear h0 h1 h2 h3 h4 h5 h6 h7 h8 h9 h10 h11 h12 h14
    have hp1 := g5.heap HP.out HNP.out
    obtain ⟨a', c', rfl⟩ := g4.form
    have d0 := blk_cell hp1 0
    have d1 := blk_cell hp1 1
    have f0 := blk_free hp1 0
    have f1 := blk_free hp1 1
    simp at d0 d1
    have hlen : ws.length ≤ 9223372036854775807 := by omega
    have HP1 := Lib.hid hp1
    have HO := Lib.hid g4
    have HG1 := Lib.hid g1
    have HG2 := Lib.hid g2
    have HG5 := Lib.hid (HUW.out.same g5)
    clear hp1 g1 g2 g4 g5 he
    simp only [LastD, Act.put, List.setIfInBounds_toArray, List.set_cons_succ, List.set_cons_zero]
    by_cases hpos : 0 < ws.length
    · go_wp2_with fail
      go_ret
      obtain ⟨i1, i2⟩ := intAt_store (n := nx) HP1.out HO.out
      refine ⟨rfl, ws, ?_, HG1.out, HG2.out, g3, (HG5.out.trans i2).mono (fun k hk q => q.elim .inr .inl)⟩
      rw [show (decide (0 < ws.length) && nx) = nx by simp [hpos]]
      exact i1
    · have hd : decide ((0 : Int) < (ws.length : Int)) = false := decide_eq_false (by omega)
      go_wp2_with fail
      go_ret
      obtain ⟨i1, i2⟩ := intAt_store (n := false) HP1.out HO.out
      refine ⟨rfl, ws, ?_, HG1.out, HG2.out, g3, (HG5.out.trans i2).mono (fun k hk q => q.elim .inr .inl)⟩
      rw [show (decide (0 < ws.length) && nx) = false by simp [hpos]]
      exact i1

set_option maxRecDepth 100000 in
set_option maxHeartbeats 2000000 in
theorem intAdd_B (p q r : Nat) (n0 nx ny : Bool) (v0 sx sy : Value) (vs xs ys : List Nat) (L : Nat) (w : World) (hp : w.heap[p]? = some (.cells #[.bool n0, v0] 70 (0, 0))) (hq : w.heap[q]? = some (.cells #[.bool nx, sx] 70 (0, 0))) (hr : w.heap[r]? = some (.cells #[.bool ny, sy] 70 (0, 0))) (hv : Own .u64 w 0 80 v0 vs) (hx : Own .u64 w 0 80 sx xs) (hy : Own .u64 w 0 80 sy ys) (hnx : norm xs = xs) (hny : norm ys = ys) (hL : L ≤ 17592186044416) (hlx : xs.length ≤ L) (hly : ys.length ≤ L) (ht : nx ≠ ny) (hcmp : val ys ≤ val xs) :
    Calls Try.prog 42 #[.pointer (some ⟨p, 0, none⟩), .pointer (some ⟨q, 0, none⟩), .pointer (some ⟨r, 0, none⟩)] w (SumR p v0 (val xs - val ys) L (nx) w) := by
  have hnp := hv.not hp (by decide)
  have hnq := hv.not hq (by decide)
  have hnr := hv.not hr (by decide)
  have hcq := blk_cell hq 0
  have hcr := blk_cell hr 0
  simp at hcq hcr
  have htest : (nx == ny) = false := by cases nx <;> cases ny <;> simp at ht ⊢
  obtain ⟨a0, c0, rfl⟩ := hv.form
  obtain ⟨ax, cx, rfl⟩ := hx.form
  obtain ⟨ay, cy, rfl⟩ := hy.form
  generalize hv0 : Value.slice a0 vs.length c0 = v0 at *
  generalize hsx : Value.slice ax xs.length cx = sx at *
  generalize hsy : Value.slice ay ys.length cy = sy at *
  have HP0 := Lib.hid hp
  have HQ0 := Lib.hid hq
  have HR0 := Lib.hid hr
  have HV0 := Lib.hid hv
  have HX0 := Lib.hid hx
  have HY0 := Lib.hid hy
  have HNX := Lib.hid hnx
  have HNY := Lib.hid hny
  have HNP := Lib.hid hnp
  have HNQ := Lib.hid hnq
  have HNR := Lib.hid hnr
  have HFX := Lib.hid hsx
  have HFY := Lib.hid hsy
  have HFV := Lib.hid hv0
  clear hp hq hr hv hx hy hnx hny hnp hnq hnr ht hsx hsy hv0
  go_enter Try.func42, Try.ntmps42
  go_wp2_with fail
  go_quiet (fail)
  have hE0 : Ext w (w.drewN nq) := Ext.drewN w nq
  clear hcq hcr
  generalize w.drewN nq = w1 at *
  have HE0 := Lib.hid hE0
  clear hE0
  go_wp2_with fail
  obtain ⟨cc, hcc, hcd⟩ : ∃ cc : Int, cmpW xs ys = cc ∧ decide (0 ≤ cc) = true := ⟨_, rfl, by rcases Nat.lt_or_ge (val ys) (val xs) with h | h; rw [cmpW_gt h]; rfl; rw [cmpW_eq (by omega)]; rfl⟩
  have HCC := Lib.hid hcc
  clear hcc
  refine wp_region_D preExt mixed [Is (.pointer (some ⟨q, 0, none⟩)), Is (.pointer (some ⟨q, 0, none⟩)), Is (.pointer (some ⟨q, 1, none⟩)), Is sx, Is (.pointer (some ⟨r, 0, none⟩)), Is (.pointer (some ⟨r, 0, none⟩)), Is (.pointer (some ⟨r, 1, none⟩)), Is sy, Is (.int .i64 cc)] (by kernel_rfl) ?mono rfl ?steps ?last
  case mono =>
    simp only [List.forall_mem_cons, List.not_mem_nil, false_implies, implies_true, and_true]
    refine ⟨?_, ?_, ?_, ?_, ?_, ?_, ?_, ?_, ?_⟩
    all_goals exact fun _ _ _ _ q => q
  case steps =>
    refine ⟨?_, ?_, ?_, ?_, ?_, ?_, ?_, ?_, ?_, trivial⟩
    all_goals
      intro u0 u1 u2 u3 u4 u5 u6 u7 u8 u9 w9 he hk
      simp [KnownD, Oper.looksAt, Op.operands, Call.operands, List.findIdx?_cons, Act.put] at hk
      simp only [Act.put, List.setIfInBounds_toArray, List.set_cons_succ, List.set_cons_zero]
    · go_wp2_with fail
      exact ⟨rfl, Ext.refl _, rfl⟩
    · obtain rfl : u0 = _ := hk
      go_wp2_with fail
      exact ⟨rfl, Ext.refl _, rfl⟩
    · obtain rfl : u1 = _ := hk
      go_wp2_with fail
      exact ⟨rfl, Ext.refl _, rfl⟩
    · obtain rfl : u2 = _ := hk
      have hc : w9.cell? ⟨q, 1, none⟩ = some sx := by rw [blk_cell (he.block (HE0.out.block HQ0.out))]; rfl
      go_wp2_with fail
      exact ⟨rfl, Ext.refl _, rfl⟩
    · go_wp2_with fail
      exact ⟨rfl, Ext.refl _, rfl⟩
    · obtain rfl : u4 = _ := hk
      go_wp2_with fail
      exact ⟨rfl, Ext.refl _, rfl⟩
    · obtain rfl : u5 = _ := hk
      go_wp2_with fail
      exact ⟨rfl, Ext.refl _, rfl⟩
    · obtain rfl : u6 = _ := hk
      have hc : w9.cell? ⟨r, 1, none⟩ = some sy := by rw [blk_cell (he.block (HE0.out.block HR0.out))]; rfl
      go_wp2_with fail
      exact ⟨rfl, Ext.refl _, rfl⟩
    · obtain ⟨k0, k1⟩ := hk
      have e0 : u3 = sx := k0
      have e1 : u7 = sy := k1
      clear k0 k1
      subst u3 u7
      have HE9 := Lib.hid he
      clear he
      go_wp2_with fail
      refine (cmp_own 0 0 _ _ xs ys _ (HX0.out.ext (HE0.out.trans HE9.out)) (HY0.out.ext (HE0.out.trans HE9.out)) HNX.out HNY.out (by omega) (by omega)).mono ?_
      rw [HCC.out]
      rintro e w8 ⟨he8, rfl⟩
      go_wp2_with fail
      exact ⟨rfl, he8, rfl⟩
  case last =>
    intro w2 he u0 h0 u1 h1 u2 h2 u3 h3 u4 h4 u5 h5 u6 h6 u7 h7 u8 h8
    obtain rfl : u8 = _ := h8
    clear h0 h1 h2 h3 h4 h5 h6 h7
    replace HE0 := Lib.hid (HE0.out.trans he)
    clear he
    have HP := Lib.hid (HE0.out.block HP0.out)
    have HQ := Lib.hid (HE0.out.block HQ0.out)
    have HR := Lib.hid (HE0.out.block HR0.out)
    have HUW : Hid (Upd (fun k => v0.ownBlock = some k) w w2) := Lib.hid HE0.out.upd
    simp only [LastD, Act.put, List.setIfInBounds_toArray, List.set_cons_succ, List.set_cons_zero]
    go_wp2_with fail
    refine wp_region_H preExt (preUpd (fun k => v0.ownBlock = some k)) (fun _ _ h => h.upd) 13 mixed [Is (.pointer (some ⟨p, 0, none⟩)), Is (.pointer (some ⟨p, 0, none⟩)), Is (.pointer (some ⟨p, 0, none⟩)), Is (.pointer (some ⟨p, 1, none⟩)), Is v0, Is (.pointer (some ⟨q, 0, none⟩)), Is (.pointer (some ⟨q, 0, none⟩)), Is (.pointer (some ⟨q, 1, none⟩)), Is sx, Is (.pointer (some ⟨r, 0, none⟩)), Is (.pointer (some ⟨r, 0, none⟩)), Is (.pointer (some ⟨r, 1, none⟩)), Is sy, NatD v0 (val xs - val ys) L w2, Is (.pointer (some ⟨p, 0, none⟩)), Is (.pointer (some ⟨p, 1, none⟩))] (by kernel_rfl) ?mono ?monoU rfl ?steps ?last
    case mono =>
      simp only [List.forall_mem_cons, List.not_mem_nil, false_implies, implies_true, and_true]
      refine ⟨?_, ?_, ?_, ?_, ?_, ?_, ?_, ?_, ?_, ?_, ?_, ?_, ?_, ?_, ?_, ?_⟩
      all_goals first | exact fun _ _ _ _ q => q | exact fun _ _ _ he q => q.ext he
    case monoU =>
      intro j hj
      match j, hj with
      | 0, _ => exact fun _ _ _ _ q => q
      | 1, _ => exact fun _ _ _ _ q => q
      | 2, _ => exact fun _ _ _ _ q => q
      | 3, _ => exact fun _ _ _ _ q => q
      | 4, _ => exact fun _ _ _ _ q => q
      | 5, _ => exact fun _ _ _ _ q => q
      | 6, _ => exact fun _ _ _ _ q => q
      | 7, _ => exact fun _ _ _ _ q => q
      | 8, _ => exact fun _ _ _ _ q => q
      | 9, _ => exact fun _ _ _ _ q => q
      | 10, _ => exact fun _ _ _ _ q => q
      | 11, _ => exact fun _ _ _ _ q => q
      | 12, _ => exact fun _ _ _ _ q => q
      | 13, h => exact absurd rfl h
      | 14, _ => exact fun _ _ _ _ q => q
      | 15, _ => exact fun _ _ _ _ q => q
      | j + 16, _ => exact fun _ _ _ _ q => trivial
    case steps =>
      refine ⟨?_, ?_, ?_, ?_, ?_, ?_, ?_, ?_, ?_, ?_, ?_, ?_, ?_, ?_, ?_, ?_, trivial⟩
      all_goals
        intro u0 u1 u2 u3 u4 u5 u6 u7 u8 u9 u10 u11 u12 u13 u14 u15 u16 w9 he hk
        simp [KnownD, Oper.looksAt, Op.operands, Call.operands, List.findIdx?_cons, Act.put] at hk
        simp only [Act.put, List.setIfInBounds_toArray, List.set_cons_succ, List.set_cons_zero]
      · go_wp2_with fail
        exact ⟨rfl, Ext.refl _, rfl⟩
      · go_wp2_with fail
        exact ⟨rfl, Ext.refl _, rfl⟩
      · obtain rfl : u1 = _ := hk
        go_wp2_with fail
        exact ⟨rfl, Ext.refl _, rfl⟩
      · obtain rfl : u2 = _ := hk
        go_wp2_with fail
        exact ⟨rfl, Ext.refl _, rfl⟩
      · obtain rfl : u3 = _ := hk
        have he' : Upd (fun k => v0.ownBlock = some k) w2 w9 := he
        have hc : w9.cell? ⟨p, 1, none⟩ = some v0 := by rw [blk_cell (he'.heap HP.out HNP.out)]; rfl
        go_wp2_with fail
        exact ⟨rfl, Ext.refl _, rfl⟩
      · go_wp2_with fail
        exact ⟨rfl, Ext.refl _, rfl⟩
      · obtain rfl : u5 = _ := hk
        go_wp2_with fail
        exact ⟨rfl, Ext.refl _, rfl⟩
      · obtain rfl : u6 = _ := hk
        go_wp2_with fail
        exact ⟨rfl, Ext.refl _, rfl⟩
      · obtain rfl : u7 = _ := hk
        have he' : Upd (fun k => v0.ownBlock = some k) w2 w9 := he
        have hc : w9.cell? ⟨q, 1, none⟩ = some sx := by rw [blk_cell (he'.heap HQ.out HNQ.out)]; rfl
        go_wp2_with fail
        exact ⟨rfl, Ext.refl _, rfl⟩
      · go_wp2_with fail
        exact ⟨rfl, Ext.refl _, rfl⟩
      · obtain rfl : u9 = _ := hk
        go_wp2_with fail
        exact ⟨rfl, Ext.refl _, rfl⟩
      · obtain rfl : u10 = _ := hk
        go_wp2_with fail
        exact ⟨rfl, Ext.refl _, rfl⟩
      · obtain rfl : u11 = _ := hk
        have he' : Upd (fun k => v0.ownBlock = some k) w2 w9 := he
        have hc : w9.cell? ⟨r, 1, none⟩ = some sy := by rw [blk_cell (he'.heap HR.out HNR.out)]; rfl
        go_wp2_with fail
        exact ⟨rfl, Ext.refl _, rfl⟩
      · obtain ⟨k0, k1, k2⟩ := hk
        have e0 : u4 = v0 := k0
        have e1 : u8 = sx := k1
        have e2 : u12 = sy := k2
        clear k0 k1 k2
        subst u4 u8 u12
        have he' : Ext w2 w9 := he
        have HE9 := Lib.hid he'
        clear he he'
        go_wp2_with fail
        refine (natSub_any _ _ _ vs xs ys _ (HV0.out.ext (HE0.out.trans HE9.out)) (HX0.out.ext (HE0.out.trans HE9.out)) (HY0.out.ext (HE0.out.trans HE9.out)) HNX.out HNY.out L hL hlx hcmp).mono ?_
        rintro e w8 ⟨ws, g1, g2, g3, v', rfl, g4, g5, g6⟩
        have HD := Lib.hid (show NatD v0 (val xs - val ys) L w2 v' w8 from ⟨ws, g1, g2, g3, g4, (HE9.out.upd).same g5⟩)
        have HU8 := Lib.hid g5
        clear g1 g2 g4 g5 g6
        go_wp2_with fail
        exact ⟨rfl, HU8.out, HD.out⟩
      · obtain rfl : u0 = _ := hk
        go_wp2_with fail
        exact ⟨rfl, Ext.refl _, rfl⟩
      · obtain rfl : u14 = _ := hk
        go_wp2_with fail
        exact ⟨rfl, Ext.refl _, rfl⟩
    case last =>
      intro w3 he u0 h0 u1 h1 u2 h2 u3 h3 u4 h4 u5 h5 u6 h6 u7 h7 u8 h8 u9 h9 u10 h10 u11 h11 u12 h12 u13 h13 u14 h14 u15 h15
      obtain rfl : u15 = _ := h15
      obtain ⟨ws, g1, g2, g3, g4, g5⟩ := h13
      clear h0 h1 h2 h3 h4 h5 h6 h7 h8 h9 h10 h11 h12 h14
      have hp1 := g5.heap HP.out HNP.out
      obtain ⟨a', c', rfl⟩ := g4.form
      have d0 := blk_cell hp1 0
      have d1 := blk_cell hp1 1
      have f0 := blk_free hp1 0
      have f1 := blk_free hp1 1
      simp at d0 d1
      have hlen : ws.length ≤ 9223372036854775807 := by omega
      have HP1 := Lib.hid hp1
      have HO := Lib.hid g4
      have HG1 := Lib.hid g1
      have HG2 := Lib.hid g2
      have HG5 := Lib.hid (HUW.out.same g5)
      clear hp1 g1 g2 g4 g5 he
      simp only [LastD, Act.put, List.setIfInBounds_toArray, List.set_cons_succ, List.set_cons_zero]
      by_cases hpos : 0 < ws.length
      · go_wp2_with fail
        go_ret
        obtain ⟨i1, i2⟩ := intAt_store (n := nx) HP1.out HO.out
        refine ⟨rfl, ws, ?_, HG1.out, HG2.out, g3, (HG5.out.trans i2).mono (fun k hk q => q.elim .inr .inl)⟩
        rw [show (decide (0 < ws.length) && nx) = nx by simp [hpos]]
        exact i1
      · have hd : decide ((0 : Int) < (ws.length : Int)) = false := decide_eq_false (by omega)
        go_wp2_with fail
        go_ret
        obtain ⟨i1, i2⟩ := intAt_store (n := false) HP1.out HO.out
        refine ⟨rfl, ws, ?_, HG1.out, HG2.out, g3, (HG5.out.trans i2).mono (fun k hk q => q.elim .inr .inl)⟩
        rw [show (decide (0 < ws.length) && nx) = false by simp [hpos]]
        exact i1

set_option maxRecDepth 100000 in
set_option maxHeartbeats 2000000 in
theorem intAdd_C (p q r : Nat) (n0 nx ny : Bool) (v0 sx sy : Value) (vs xs ys : List Nat) (L : Nat) (w : World) (hp : w.heap[p]? = some (.cells #[.bool n0, v0] 70 (0, 0))) (hq : w.heap[q]? = some (.cells #[.bool nx, sx] 70 (0, 0))) (hr : w.heap[r]? = some (.cells #[.bool ny, sy] 70 (0, 0))) (hv : Own .u64 w 0 80 v0 vs) (hx : Own .u64 w 0 80 sx xs) (hy : Own .u64 w 0 80 sy ys) (hnx : norm xs = xs) (hny : norm ys = ys) (hL : L ≤ 17592186044416) (hlx : xs.length ≤ L) (hly : ys.length ≤ L) (ht : nx ≠ ny) (hcmp : val xs < val ys) :
    Calls Try.prog 42 #[.pointer (some ⟨p, 0, none⟩), .pointer (some ⟨q, 0, none⟩), .pointer (some ⟨r, 0, none⟩)] w (SumR p v0 (val ys - val xs) L (!nx) w) := by
  have hnp := hv.not hp (by decide)
  have hnq := hv.not hq (by decide)
  have hnr := hv.not hr (by decide)
  have hcq := blk_cell hq 0
  have hcr := blk_cell hr 0
  simp at hcq hcr
  have htest : (nx == ny) = false := by cases nx <;> cases ny <;> simp at ht ⊢
  obtain ⟨a0, c0, rfl⟩ := hv.form
  obtain ⟨ax, cx, rfl⟩ := hx.form
  obtain ⟨ay, cy, rfl⟩ := hy.form
  generalize hv0 : Value.slice a0 vs.length c0 = v0 at *
  generalize hsx : Value.slice ax xs.length cx = sx at *
  generalize hsy : Value.slice ay ys.length cy = sy at *
  have HP0 := Lib.hid hp
  have HQ0 := Lib.hid hq
  have HR0 := Lib.hid hr
  have HV0 := Lib.hid hv
  have HX0 := Lib.hid hx
  have HY0 := Lib.hid hy
  have HNX := Lib.hid hnx
  have HNY := Lib.hid hny
  have HNP := Lib.hid hnp
  have HNQ := Lib.hid hnq
  have HNR := Lib.hid hnr
  have HFX := Lib.hid hsx
  have HFY := Lib.hid hsy
  have HFV := Lib.hid hv0
  clear hp hq hr hv hx hy hnx hny hnp hnq hnr ht hsx hsy hv0
  go_enter Try.func42, Try.ntmps42
  go_wp2_with fail
  go_quiet (fail)
  have hE0 : Ext w (w.drewN nq) := Ext.drewN w nq
  clear hcq hcr
  generalize w.drewN nq = w1 at *
  have HE0 := Lib.hid hE0
  clear hE0
  go_wp2_with fail
  obtain ⟨cc, hcc, hcd⟩ : ∃ cc : Int, cmpW xs ys = cc ∧ decide (0 ≤ cc) = false := ⟨_, rfl, by rw [cmpW_lt hcmp]; rfl⟩
  have HCC := Lib.hid hcc
  clear hcc
  refine wp_region_D preExt mixed [Is (.pointer (some ⟨q, 0, none⟩)), Is (.pointer (some ⟨q, 0, none⟩)), Is (.pointer (some ⟨q, 1, none⟩)), Is sx, Is (.pointer (some ⟨r, 0, none⟩)), Is (.pointer (some ⟨r, 0, none⟩)), Is (.pointer (some ⟨r, 1, none⟩)), Is sy, Is (.int .i64 cc)] (by kernel_rfl) ?mono rfl ?steps ?last
  case mono =>
    simp only [List.forall_mem_cons, List.not_mem_nil, false_implies, implies_true, and_true]
    refine ⟨?_, ?_, ?_, ?_, ?_, ?_, ?_, ?_, ?_⟩
    all_goals exact fun _ _ _ _ q => q
  case steps =>
    refine ⟨?_, ?_, ?_, ?_, ?_, ?_, ?_, ?_, ?_, trivial⟩
    all_goals
      intro u0 u1 u2 u3 u4 u5 u6 u7 u8 u9 w9 he hk
      simp [KnownD, Oper.looksAt, Op.operands, Call.operands, List.findIdx?_cons, Act.put] at hk
      simp only [Act.put, List.setIfInBounds_toArray, List.set_cons_succ, List.set_cons_zero]
    · go_wp2_with fail
      exact ⟨rfl, Ext.refl _, rfl⟩
    · obtain rfl : u0 = _ := hk
      go_wp2_with fail
      exact ⟨rfl, Ext.refl _, rfl⟩
    · obtain rfl : u1 = _ := hk
      go_wp2_with fail
      exact ⟨rfl, Ext.refl _, rfl⟩
    · obtain rfl : u2 = _ := hk
      have hc : w9.cell? ⟨q, 1, none⟩ = some sx := by rw [blk_cell (he.block (HE0.out.block HQ0.out))]; rfl
      go_wp2_with fail
      exact ⟨rfl, Ext.refl _, rfl⟩
    · go_wp2_with fail
      exact ⟨rfl, Ext.refl _, rfl⟩
    · obtain rfl : u4 = _ := hk
      go_wp2_with fail
      exact ⟨rfl, Ext.refl _, rfl⟩
    · obtain rfl : u5 = _ := hk
      go_wp2_with fail
      exact ⟨rfl, Ext.refl _, rfl⟩
    · obtain rfl : u6 = _ := hk
      have hc : w9.cell? ⟨r, 1, none⟩ = some sy := by rw [blk_cell (he.block (HE0.out.block HR0.out))]; rfl
      go_wp2_with fail
      exact ⟨rfl, Ext.refl _, rfl⟩
    · obtain ⟨k0, k1⟩ := hk
      have e0 : u3 = sx := k0
      have e1 : u7 = sy := k1
      clear k0 k1
      subst u3 u7
      have HE9 := Lib.hid he
      clear he
      go_wp2_with fail
      refine (cmp_own 0 0 _ _ xs ys _ (HX0.out.ext (HE0.out.trans HE9.out)) (HY0.out.ext (HE0.out.trans HE9.out)) HNX.out HNY.out (by omega) (by omega)).mono ?_
      rw [HCC.out]
      rintro e w8 ⟨he8, rfl⟩
      go_wp2_with fail
      exact ⟨rfl, he8, rfl⟩
  case last =>
    intro w2 he u0 h0 u1 h1 u2 h2 u3 h3 u4 h4 u5 h5 u6 h6 u7 h7 u8 h8
    obtain rfl : u8 = _ := h8
    clear h0 h1 h2 h3 h4 h5 h6 h7
    replace HE0 := Lib.hid (HE0.out.trans he)
    clear he
    have HP := Lib.hid (HE0.out.block HP0.out)
    have HQ := Lib.hid (HE0.out.block HQ0.out)
    have HR := Lib.hid (HE0.out.block HR0.out)
    have HUW : Hid (Upd (fun k => v0.ownBlock = some k) w w2) := Lib.hid HE0.out.upd
    simp only [LastD, Act.put, List.setIfInBounds_toArray, List.set_cons_succ, List.set_cons_zero]
    go_wp2_with fail
    refine wp_region_H preExt (preUpd (fun k => v0.ownBlock = some k)) (fun _ _ h => h.upd) 13 mixed [Is (.pointer (some ⟨p, 0, none⟩)), Is (.pointer (some ⟨p, 0, none⟩)), Is (.pointer (some ⟨p, 0, none⟩)), Is (.pointer (some ⟨p, 1, none⟩)), Is v0, Is (.pointer (some ⟨r, 0, none⟩)), Is (.pointer (some ⟨r, 0, none⟩)), Is (.pointer (some ⟨r, 1, none⟩)), Is sy, Is (.pointer (some ⟨q, 0, none⟩)), Is (.pointer (some ⟨q, 0, none⟩)), Is (.pointer (some ⟨q, 1, none⟩)), Is sx, NatD v0 (val ys - val xs) L w2, Is (.pointer (some ⟨p, 0, none⟩)), Is (.pointer (some ⟨p, 1, none⟩))] (by kernel_rfl) ?mono ?monoU rfl ?steps ?last
    case mono =>
      simp only [List.forall_mem_cons, List.not_mem_nil, false_implies, implies_true, and_true]
      refine ⟨?_, ?_, ?_, ?_, ?_, ?_, ?_, ?_, ?_, ?_, ?_, ?_, ?_, ?_, ?_, ?_⟩
      all_goals first | exact fun _ _ _ _ q => q | exact fun _ _ _ he q => q.ext he
    case monoU =>
      intro j hj
      match j, hj with
      | 0, _ => exact fun _ _ _ _ q => q
      | 1, _ => exact fun _ _ _ _ q => q
      | 2, _ => exact fun _ _ _ _ q => q
      | 3, _ => exact fun _ _ _ _ q => q
      | 4, _ => exact fun _ _ _ _ q => q
      | 5, _ => exact fun _ _ _ _ q => q
      | 6, _ => exact fun _ _ _ _ q => q
      | 7, _ => exact fun _ _ _ _ q => q
      | 8, _ => exact fun _ _ _ _ q => q
      | 9, _ => exact fun _ _ _ _ q => q
      | 10, _ => exact fun _ _ _ _ q => q
      | 11, _ => exact fun _ _ _ _ q => q
      | 12, _ => exact fun _ _ _ _ q => q
      | 13, h => exact absurd rfl h
      | 14, _ => exact fun _ _ _ _ q => q
      | 15, _ => exact fun _ _ _ _ q => q
      | j + 16, _ => exact fun _ _ _ _ q => trivial
    case steps =>
      refine ⟨?_, ?_, ?_, ?_, ?_, ?_, ?_, ?_, ?_, ?_, ?_, ?_, ?_, ?_, ?_, ?_, trivial⟩
      all_goals
        intro u0 u1 u2 u3 u4 u5 u6 u7 u8 u9 u10 u11 u12 u13 u14 u15 u16 w9 he hk
        simp [KnownD, Oper.looksAt, Op.operands, Call.operands, List.findIdx?_cons, Act.put] at hk
        simp only [Act.put, List.setIfInBounds_toArray, List.set_cons_succ, List.set_cons_zero]
      · go_wp2_with fail
        exact ⟨rfl, Ext.refl _, rfl⟩
      · go_wp2_with fail
        exact ⟨rfl, Ext.refl _, rfl⟩
      · obtain rfl : u1 = _ := hk
        go_wp2_with fail
        exact ⟨rfl, Ext.refl _, rfl⟩
      · obtain rfl : u2 = _ := hk
        go_wp2_with fail
        exact ⟨rfl, Ext.refl _, rfl⟩
      · obtain rfl : u3 = _ := hk
        have he' : Upd (fun k => v0.ownBlock = some k) w2 w9 := he
        have hc : w9.cell? ⟨p, 1, none⟩ = some v0 := by rw [blk_cell (he'.heap HP.out HNP.out)]; rfl
        go_wp2_with fail
        exact ⟨rfl, Ext.refl _, rfl⟩
      · go_wp2_with fail
        exact ⟨rfl, Ext.refl _, rfl⟩
      · obtain rfl : u5 = _ := hk
        go_wp2_with fail
        exact ⟨rfl, Ext.refl _, rfl⟩
      · obtain rfl : u6 = _ := hk
        go_wp2_with fail
        exact ⟨rfl, Ext.refl _, rfl⟩
      · obtain rfl : u7 = _ := hk
        have he' : Upd (fun k => v0.ownBlock = some k) w2 w9 := he
        have hc : w9.cell? ⟨r, 1, none⟩ = some sy := by rw [blk_cell (he'.heap HR.out HNR.out)]; rfl
        go_wp2_with fail
        exact ⟨rfl, Ext.refl _, rfl⟩
      · go_wp2_with fail
        exact ⟨rfl, Ext.refl _, rfl⟩
      · obtain rfl : u9 = _ := hk
        go_wp2_with fail
        exact ⟨rfl, Ext.refl _, rfl⟩
      · obtain rfl : u10 = _ := hk
        go_wp2_with fail
        exact ⟨rfl, Ext.refl _, rfl⟩
      · obtain rfl : u11 = _ := hk
        have he' : Upd (fun k => v0.ownBlock = some k) w2 w9 := he
        have hc : w9.cell? ⟨q, 1, none⟩ = some sx := by rw [blk_cell (he'.heap HQ.out HNQ.out)]; rfl
        go_wp2_with fail
        exact ⟨rfl, Ext.refl _, rfl⟩
      · obtain ⟨k0, k1, k2⟩ := hk
        have e0 : u4 = v0 := k0
        have e1 : u8 = sy := k1
        have e2 : u12 = sx := k2
        clear k0 k1 k2
        subst u4 u8 u12
        have he' : Ext w2 w9 := he
        have HE9 := Lib.hid he'
        clear he he'
        go_wp2_with fail
        refine (natSub_any _ _ _ vs ys xs _ (HV0.out.ext (HE0.out.trans HE9.out)) (HY0.out.ext (HE0.out.trans HE9.out)) (HX0.out.ext (HE0.out.trans HE9.out)) HNY.out HNX.out L hL hly (by omega)).mono ?_
        rintro e w8 ⟨ws, g1, g2, g3, v', rfl, g4, g5, g6⟩
        have HD := Lib.hid (show NatD v0 (val ys - val xs) L w2 v' w8 from ⟨ws, g1, g2, g3, g4, (HE9.out.upd).same g5⟩)
        have HU8 := Lib.hid g5
        clear g1 g2 g4 g5 g6
        go_wp2_with fail
        exact ⟨rfl, HU8.out, HD.out⟩
      · obtain rfl : u0 = _ := hk
        go_wp2_with fail
        exact ⟨rfl, Ext.refl _, rfl⟩
      · obtain rfl : u14 = _ := hk
        go_wp2_with fail
        exact ⟨rfl, Ext.refl _, rfl⟩
    case last =>
      intro w3 he u0 h0 u1 h1 u2 h2 u3 h3 u4 h4 u5 h5 u6 h6 u7 h7 u8 h8 u9 h9 u10 h10 u11 h11 u12 h12 u13 h13 u14 h14 u15 h15
      obtain rfl : u15 = _ := h15
      obtain ⟨ws, g1, g2, g3, g4, g5⟩ := h13
      clear h0 h1 h2 h3 h4 h5 h6 h7 h8 h9 h10 h11 h12 h14
      have hp1 := g5.heap HP.out HNP.out
      obtain ⟨a', c', rfl⟩ := g4.form
      have d0 := blk_cell hp1 0
      have d1 := blk_cell hp1 1
      have f0 := blk_free hp1 0
      have f1 := blk_free hp1 1
      simp at d0 d1
      have hlen : ws.length ≤ 9223372036854775807 := by omega
      have HP1 := Lib.hid hp1
      have HO := Lib.hid g4
      have HG1 := Lib.hid g1
      have HG2 := Lib.hid g2
      have HG5 := Lib.hid (HUW.out.same g5)
      clear hp1 g1 g2 g4 g5 he
      simp only [LastD, Act.put, List.setIfInBounds_toArray, List.set_cons_succ, List.set_cons_zero]
      by_cases hpos : 0 < ws.length
      · go_wp2_with fail
        go_ret
        obtain ⟨i1, i2⟩ := intAt_store (n := (!nx)) HP1.out HO.out
        refine ⟨rfl, ws, ?_, HG1.out, HG2.out, g3, (HG5.out.trans i2).mono (fun k hk q => q.elim .inr .inl)⟩
        rw [show (decide (0 < ws.length) && (!nx)) = (!nx) by simp [hpos]]
        exact i1
      · have hd : decide ((0 : Int) < (ws.length : Int)) = false := decide_eq_false (by omega)
        go_wp2_with fail
        go_ret
        obtain ⟨i1, i2⟩ := intAt_store (n := false) HP1.out HO.out
        refine ⟨rfl, ws, ?_, HG1.out, HG2.out, g3, (HG5.out.trans i2).mono (fun k hk q => q.elim .inr .inl)⟩
        rw [show (decide (0 < ws.length) && (!nx)) = false by simp [hpos]]
        exact i1

set_option maxRecDepth 100000 in
set_option maxHeartbeats 2000000 in
theorem intSub_A (p q r : Nat) (n0 nx ny : Bool) (v0 sx sy : Value) (vs xs ys : List Nat) (L : Nat) (w : World) (hp : w.heap[p]? = some (.cells #[.bool n0, v0] 70 (0, 0))) (hq : w.heap[q]? = some (.cells #[.bool nx, sx] 70 (0, 0))) (hr : w.heap[r]? = some (.cells #[.bool ny, sy] 70 (0, 0))) (hv : Own .u64 w 0 80 v0 vs) (hx : Own .u64 w 0 80 sx xs) (hy : Own .u64 w 0 80 sy ys) (hnx : norm xs = xs) (hny : norm ys = ys) (hL : L ≤ 17592186044416) (hlx : xs.length ≤ L) (hly : ys.length ≤ L) (ht : nx ≠ ny) :
    Calls Try.prog 45 #[.pointer (some ⟨p, 0, none⟩), .pointer (some ⟨q, 0, none⟩), .pointer (some ⟨r, 0, none⟩)] w (SumR p v0 (val xs + val ys) (L + 1) (nx) w) := by
  have hnp := hv.not hp (by decide)
  have hnq := hv.not hq (by decide)
  have hnr := hv.not hr (by decide)
  have hcq := blk_cell hq 0
  have hcr := blk_cell hr 0
  simp at hcq hcr
  have htest : (nx == ny) = false := by cases nx <;> cases ny <;> simp at ht ⊢
  obtain ⟨a0, c0, rfl⟩ := hv.form
  obtain ⟨ax, cx, rfl⟩ := hx.form
  obtain ⟨ay, cy, rfl⟩ := hy.form
  generalize hv0 : Value.slice a0 vs.length c0 = v0 at *
  generalize hsx : Value.slice ax xs.length cx = sx at *
  generalize hsy : Value.slice ay ys.length cy = sy at *
  have HP0 := Lib.hid hp
  have HQ0 := Lib.hid hq
  have HR0 := Lib.hid hr
  have HV0 := Lib.hid hv
  have HX0 := Lib.hid hx
  have HY0 := Lib.hid hy
  have HNX := Lib.hid hnx
  have HNY := Lib.hid hny
  have HNP := Lib.hid hnp
  have HNQ := Lib.hid hnq
  have HNR := Lib.hid hnr
  have HFX := Lib.hid hsx
  have HFY := Lib.hid hsy
  have HFV := Lib.hid hv0
  clear hp hq hr hv hx hy hnx hny hnp hnq hnr ht hsx hsy hv0
  go_enter Try.func45, Try.ntmps45
  go_wp2_with fail
  go_quiet (fail)
  have hE0 : Ext w (w.drewN nq) := Ext.drewN w nq
  clear hcq hcr
  generalize w.drewN nq = w1 at *
  have HE0 := Lib.hid hE0
  clear hE0
  go_wp2_with fail
  have HP := Lib.hid (HE0.out.block HP0.out)
  have HQ := Lib.hid (HE0.out.block HQ0.out)
  have HR := Lib.hid (HE0.out.block HR0.out)
  have HUW : Hid (Upd (fun k => v0.ownBlock = some k) w w1) := Lib.hid HE0.out.upd
  refine wp_region_H preExt (preUpd (fun k => v0.ownBlock = some k)) (fun _ _ h => h.upd) 13 mixed [Is (.pointer (some ⟨p, 0, none⟩)), Is (.pointer (some ⟨p, 0, none⟩)), Is (.pointer (some ⟨p, 0, none⟩)), Is (.pointer (some ⟨p, 1, none⟩)), Is v0, Is (.pointer (some ⟨q, 0, none⟩)), Is (.pointer (some ⟨q, 0, none⟩)), Is (.pointer (some ⟨q, 1, none⟩)), Is sx, Is (.pointer (some ⟨r, 0, none⟩)), Is (.pointer (some ⟨r, 0, none⟩)), Is (.pointer (some ⟨r, 1, none⟩)), Is sy, NatD v0 (val xs + val ys) (L + 1) w1, Is (.pointer (some ⟨p, 0, none⟩)), Is (.pointer (some ⟨p, 1, none⟩))] (by kernel_rfl) ?mono ?monoU rfl ?steps ?last
  case mono =>
    simp only [List.forall_mem_cons, List.not_mem_nil, false_implies, implies_true, and_true]
    refine ⟨?_, ?_, ?_, ?_, ?_, ?_, ?_, ?_, ?_, ?_, ?_, ?_, ?_, ?_, ?_, ?_⟩
    all_goals first | exact fun _ _ _ _ q => q | exact fun _ _ _ he q => q.ext he
  case monoU =>
    intro j hj
    match j, hj with
    | 0, _ => exact fun _ _ _ _ q => q
    | 1, _ => exact fun _ _ _ _ q => q
    | 2, _ => exact fun _ _ _ _ q => q
    | 3, _ => exact fun _ _ _ _ q => q
    | 4, _ => exact fun _ _ _ _ q => q
    | 5, _ => exact fun _ _ _ _ q => q
    | 6, _ => exact fun _ _ _ _ q => q
    | 7, _ => exact fun _ _ _ _ q => q
    | 8, _ => exact fun _ _ _ _ q => q
    | 9, _ => exact fun _ _ _ _ q => q
    | 10, _ => exact fun _ _ _ _ q => q
    | 11, _ => exact fun _ _ _ _ q => q
    | 12, _ => exact fun _ _ _ _ q => q
    | 13, h => exact absurd rfl h
    | 14, _ => exact fun _ _ _ _ q => q
    | 15, _ => exact fun _ _ _ _ q => q
    | j + 16, _ => exact fun _ _ _ _ q => trivial
  case steps =>
    refine ⟨?_, ?_, ?_, ?_, ?_, ?_, ?_, ?_, ?_, ?_, ?_, ?_, ?_, ?_, ?_, ?_, trivial⟩
    all_goals
      intro u0 u1 u2 u3 u4 u5 u6 u7 u8 u9 u10 u11 u12 u13 u14 u15 u16 w9 he hk
      simp [KnownD, Oper.looksAt, Op.operands, Call.operands, List.findIdx?_cons, Act.put] at hk
      simp only [Act.put, List.setIfInBounds_toArray, List.set_cons_succ, List.set_cons_zero]
    · go_wp2_with fail
      exact ⟨rfl, Ext.refl _, rfl⟩
    · go_wp2_with fail
      exact ⟨rfl, Ext.refl _, rfl⟩
    · obtain rfl : u1 = _ := hk
      go_wp2_with fail
      exact ⟨rfl, Ext.refl _, rfl⟩
    · obtain rfl : u2 = _ := hk
      go_wp2_with fail
      exact ⟨rfl, Ext.refl _, rfl⟩
    · obtain rfl : u3 = _ := hk
      have he' : Upd (fun k => v0.ownBlock = some k) w1 w9 := he
      have hc : w9.cell? ⟨p, 1, none⟩ = some v0 := by rw [blk_cell (he'.heap HP.out HNP.out)]; rfl
      go_wp2_with fail
      exact ⟨rfl, Ext.refl _, rfl⟩
    · go_wp2_with fail
      exact ⟨rfl, Ext.refl _, rfl⟩
    · obtain rfl : u5 = _ := hk
      go_wp2_with fail
      exact ⟨rfl, Ext.refl _, rfl⟩
    · obtain rfl : u6 = _ := hk
      go_wp2_with fail
      exact ⟨rfl, Ext.refl _, rfl⟩
    · obtain rfl : u7 = _ := hk
      have he' : Upd (fun k => v0.ownBlock = some k) w1 w9 := he
      have hc : w9.cell? ⟨q, 1, none⟩ = some sx := by rw [blk_cell (he'.heap HQ.out HNQ.out)]; rfl
      go_wp2_with fail
      exact ⟨rfl, Ext.refl _, rfl⟩
    · go_wp2_with fail
      exact ⟨rfl, Ext.refl _, rfl⟩
    · obtain rfl : u9 = _ := hk
      go_wp2_with fail
      exact ⟨rfl, Ext.refl _, rfl⟩
    · obtain rfl : u10 = _ := hk
      go_wp2_with fail
      exact ⟨rfl, Ext.refl _, rfl⟩
    · obtain rfl : u11 = _ := hk
      have he' : Upd (fun k => v0.ownBlock = some k) w1 w9 := he
      have hc : w9.cell? ⟨r, 1, none⟩ = some sy := by rw [blk_cell (he'.heap HR.out HNR.out)]; rfl
      go_wp2_with fail
      exact ⟨rfl, Ext.refl _, rfl⟩
    · obtain ⟨k0, k1, k2⟩ := hk
      have e0 : u4 = v0 := k0
      have e1 : u8 = sx := k1
      have e2 : u12 = sy := k2
      clear k0 k1 k2
      subst u4 u8 u12
      have he' : Ext w1 w9 := he
      have HE9 := Lib.hid he'
      clear he he'
      go_wp2_with fail
      refine (natAdd_any _ _ _ vs xs ys _ (HV0.out.ext (HE0.out.trans HE9.out)) (HX0.out.ext (HE0.out.trans HE9.out)) (HY0.out.ext (HE0.out.trans HE9.out)) HNX.out HNY.out L hL hlx hly).mono ?_
      rintro e w8 ⟨ws, g1, g2, g3, v', rfl, g4, g5, g6⟩
      have HD := Lib.hid (show NatD v0 (val xs + val ys) (L + 1) w1 v' w8 from ⟨ws, g1, g2, g3, g4, (HE9.out.upd).same g5⟩)
      have HU8 := Lib.hid g5
      clear g1 g2 g4 g5 g6
      go_wp2_with fail
      exact ⟨rfl, HU8.out, HD.out⟩
    · obtain rfl : u0 = _ := hk
      go_wp2_with fail
      exact ⟨rfl, Ext.refl _, rfl⟩
    · obtain rfl : u14 = _ := hk
      go_wp2_with fail
      exact ⟨rfl, Ext.refl _, rfl⟩
  case last =>
    intro w3 he u0 h0 u1 h1 u2 h2 u3 h3 u4 h4 u5 h5 u6 h6 u7 h7 u8 h8 u9 h9 u10 h10 u11 h11 u12 h12 u13 h13 u14 h14 u15 h15
    obtain rfl : u15 = _ := h15
    obtain ⟨ws, g1, g2, g3, g4, g5⟩ := h13
    clear h0 h1 h2 h3 h4 h5 h6 h7 h8 h9 h10 h11 h12 h14
    have hp1 := g5.heap HP.out HNP.out
    obtain ⟨a', c', rfl⟩ := g4.form
    have d0 := blk_cell hp1 0
    have d1 := blk_cell hp1 1
    have f0 := blk_free hp1 0
    have f1 := blk_free hp1 1
    simp at d0 d1
    have hlen : ws.length ≤ 9223372036854775807 := by omega
    have HP1 := Lib.hid hp1
    have HO := Lib.hid g4
    have HG1 := Lib.hid g1
    have HG2 := Lib.hid g2
    have HG5 := Lib.hid (HUW.out.same g5)
    clear hp1 g1 g2 g4 g5 he
    simp only [LastD, Act.put, List.setIfInBounds_toArray, List.set_cons_succ, List.set_cons_zero]
    by_cases hpos : 0 < ws.length
    · go_wp2_with fail
      go_ret
      obtain ⟨i1, i2⟩ := intAt_store (n := nx) HP1.out HO.out
      refine ⟨rfl, ws, ?_, HG1.out, HG2.out, g3, (HG5.out.trans i2).mono (fun k hk q => q.elim .inr .inl)⟩
      rw [show (decide (0 < ws.length) && nx) = nx by simp [hpos]]
      exact i1
    · have hd : decide ((0 : Int) < (ws.length : Int)) = false := decide_eq_false (by omega)
      go_wp2_with fail
      go_ret
      obtain ⟨i1, i2⟩ := intAt_store (n := false) HP1.out HO.out
      refine ⟨rfl, ws, ?_, HG1.out, HG2.out, g3, (HG5.out.trans i2).mono (fun k hk q => q.elim .inr .inl)⟩
      rw [show (decide (0 < ws.length) && nx) = false by simp [hpos]]
      exact i1

set_option maxRecDepth 100000 in
set_option maxHeartbeats 2000000 in
theorem intSub_B (p q r : Nat) (n0 nx ny : Bool) (v0 sx sy : Value) (vs xs ys : List Nat) (L : Nat) (w : World) (hp : w.heap[p]? = some (.cells #[.bool n0, v0] 70 (0, 0))) (hq : w.heap[q]? = some (.cells #[.bool nx, sx] 70 (0, 0))) (hr : w.heap[r]? = some (.cells #[.bool ny, sy] 70 (0, 0))) (hv : Own .u64 w 0 80 v0 vs) (hx : Own .u64 w 0 80 sx xs) (hy : Own .u64 w 0 80 sy ys) (hnx : norm xs = xs) (hny : norm ys = ys) (hL : L ≤ 17592186044416) (hlx : xs.length ≤ L) (hly : ys.length ≤ L) (ht : nx = ny) (hcmp : val ys ≤ val xs) :
    Calls Try.prog 45 #[.pointer (some ⟨p, 0, none⟩), .pointer (some ⟨q, 0, none⟩), .pointer (some ⟨r, 0, none⟩)] w (SumR p v0 (val xs - val ys) L (nx) w) := by
  have hnp := hv.not hp (by decide)
  have hnq := hv.not hq (by decide)
  have hnr := hv.not hr (by decide)
  have hcq := blk_cell hq 0
  have hcr := blk_cell hr 0
  simp at hcq hcr
  have htest : (nx == ny) = true := by cases nx <;> cases ny <;> simp at ht ⊢
  obtain ⟨a0, c0, rfl⟩ := hv.form
  obtain ⟨ax, cx, rfl⟩ := hx.form
  obtain ⟨ay, cy, rfl⟩ := hy.form
  generalize hv0 : Value.slice a0 vs.length c0 = v0 at *
  generalize hsx : Value.slice ax xs.length cx = sx at *
  generalize hsy : Value.slice ay ys.length cy = sy at *
  have HP0 := Lib.hid hp
  have HQ0 := Lib.hid hq
  have HR0 := Lib.hid hr
  have HV0 := Lib.hid hv
  have HX0 := Lib.hid hx
  have HY0 := Lib.hid hy
  have HNX := Lib.hid hnx
  have HNY := Lib.hid hny
  have HNP := Lib.hid hnp
  have HNQ := Lib.hid hnq
  have HNR := Lib.hid hnr
  have HFX := Lib.hid hsx
  have HFY := Lib.hid hsy
  have HFV := Lib.hid hv0
  clear hp hq hr hv hx hy hnx hny hnp hnq hnr ht hsx hsy hv0
  go_enter Try.func45, Try.ntmps45
  go_wp2_with fail
  go_quiet (fail)
  have hE0 : Ext w (w.drewN nq) := Ext.drewN w nq
  clear hcq hcr
  generalize w.drewN nq = w1 at *
  have HE0 := Lib.hid hE0
  clear hE0
  go_wp2_with fail
  obtain ⟨cc, hcc, hcd⟩ : ∃ cc : Int, cmpW xs ys = cc ∧ decide (0 ≤ cc) = true := ⟨_, rfl, by rcases Nat.lt_or_ge (val ys) (val xs) with h | h; rw [cmpW_gt h]; rfl; rw [cmpW_eq (by omega)]; rfl⟩
  have HCC := Lib.hid hcc
  clear hcc
  refine wp_region_D preExt mixed [Is (.pointer (some ⟨q, 0, none⟩)), Is (.pointer (some ⟨q, 0, none⟩)), Is (.pointer (some ⟨q, 1, none⟩)), Is sx, Is (.pointer (some ⟨r, 0, none⟩)), Is (.pointer (some ⟨r, 0, none⟩)), Is (.pointer (some ⟨r, 1, none⟩)), Is sy, Is (.int .i64 cc)] (by kernel_rfl) ?mono rfl ?steps ?last
  case mono =>
    simp only [List.forall_mem_cons, List.not_mem_nil, false_implies, implies_true, and_true]
    refine ⟨?_, ?_, ?_, ?_, ?_, ?_, ?_, ?_, ?_⟩
    all_goals exact fun _ _ _ _ q => q
  case steps =>
    refine ⟨?_, ?_, ?_, ?_, ?_, ?_, ?_, ?_, ?_, trivial⟩
    all_goals
      intro u0 u1 u2 u3 u4 u5 u6 u7 u8 u9 w9 he hk
      simp [KnownD, Oper.looksAt, Op.operands, Call.operands, List.findIdx?_cons, Act.put] at hk
      simp only [Act.put, List.setIfInBounds_toArray, List.set_cons_succ, List.set_cons_zero]
    · go_wp2_with fail
      exact ⟨rfl, Ext.refl _, rfl⟩
    · obtain rfl : u0 = _ := hk
      go_wp2_with fail
      exact ⟨rfl, Ext.refl _, rfl⟩
    · obtain rfl : u1 = _ := hk
      go_wp2_with fail
      exact ⟨rfl, Ext.refl _, rfl⟩
    · obtain rfl : u2 = _ := hk
      have hc : w9.cell? ⟨q, 1, none⟩ = some sx := by rw [blk_cell (he.block (HE0.out.block HQ0.out))]; rfl
      go_wp2_with fail
      exact ⟨rfl, Ext.refl _, rfl⟩
    · go_wp2_with fail
      exact ⟨rfl, Ext.refl _, rfl⟩
    · obtain rfl : u4 = _ := hk
      go_wp2_with fail
      exact ⟨rfl, Ext.refl _, rfl⟩
    · obtain rfl : u5 = _ := hk
      go_wp2_with fail
      exact ⟨rfl, Ext.refl _, rfl⟩
    · obtain rfl : u6 = _ := hk
      have hc : w9.cell? ⟨r, 1, none⟩ = some sy := by rw [blk_cell (he.block (HE0.out.block HR0.out))]; rfl
      go_wp2_with fail
      exact ⟨rfl, Ext.refl _, rfl⟩
    · obtain ⟨k0, k1⟩ := hk
      have e0 : u3 = sx := k0
      have e1 : u7 = sy := k1
      clear k0 k1
      subst u3 u7
      have HE9 := Lib.hid he
      clear he
      go_wp2_with fail
      refine (cmp_own 0 0 _ _ xs ys _ (HX0.out.ext (HE0.out.trans HE9.out)) (HY0.out.ext (HE0.out.trans HE9.out)) HNX.out HNY.out (by omega) (by omega)).mono ?_
      rw [HCC.out]
      rintro e w8 ⟨he8, rfl⟩
      go_wp2_with fail
      exact ⟨rfl, he8, rfl⟩
  case last =>
    intro w2 he u0 h0 u1 h1 u2 h2 u3 h3 u4 h4 u5 h5 u6 h6 u7 h7 u8 h8
    obtain rfl : u8 = _ := h8
    clear h0 h1 h2 h3 h4 h5 h6 h7
    replace HE0 := Lib.hid (HE0.out.trans he)
    clear he
    have HP := Lib.hid (HE0.out.block HP0.out)
    have HQ := Lib.hid (HE0.out.block HQ0.out)
    have HR := Lib.hid (HE0.out.block HR0.out)
    have HUW : Hid (Upd (fun k => v0.ownBlock = some k) w w2) := Lib.hid HE0.out.upd
    simp only [LastD, Act.put, List.setIfInBounds_toArray, List.set_cons_succ, List.set_cons_zero]
    go_wp2_with fail
    refine wp_region_H preExt (preUpd (fun k => v0.ownBlock = some k)) (fun _ _ h => h.upd) 13 mixed [Is (.pointer (some ⟨p, 0, none⟩)), Is (.pointer (some ⟨p, 0, none⟩)), Is (.pointer (some ⟨p, 0, none⟩)), Is (.pointer (some ⟨p, 1, none⟩)), Is v0, Is (.pointer (some ⟨q, 0, none⟩)), Is (.pointer (some ⟨q, 0, none⟩)), Is (.pointer (some ⟨q, 1, none⟩)), Is sx, Is (.pointer (some ⟨r, 0, none⟩)), Is (.pointer (some ⟨r, 0, none⟩)), Is (.pointer (some ⟨r, 1, none⟩)), Is sy, NatD v0 (val xs - val ys) L w2, Is (.pointer (some ⟨p, 0, none⟩)), Is (.pointer (some ⟨p, 1, none⟩))] (by kernel_rfl) ?mono ?monoU rfl ?steps ?last
    case mono =>
      simp only [List.forall_mem_cons, List.not_mem_nil, false_implies, implies_true, and_true]
      refine ⟨?_, ?_, ?_, ?_, ?_, ?_, ?_, ?_, ?_, ?_, ?_, ?_, ?_, ?_, ?_, ?_⟩
      all_goals first | exact fun _ _ _ _ q => q | exact fun _ _ _ he q => q.ext he
    case monoU =>
      intro j hj
      match j, hj with
      | 0, _ => exact fun _ _ _ _ q => q
      | 1, _ => exact fun _ _ _ _ q => q
      | 2, _ => exact fun _ _ _ _ q => q
      | 3, _ => exact fun _ _ _ _ q => q
      | 4, _ => exact fun _ _ _ _ q => q
      | 5, _ => exact fun _ _ _ _ q => q
      | 6, _ => exact fun _ _ _ _ q => q
      | 7, _ => exact fun _ _ _ _ q => q
      | 8, _ => exact fun _ _ _ _ q => q
      | 9, _ => exact fun _ _ _ _ q => q
      | 10, _ => exact fun _ _ _ _ q => q
      | 11, _ => exact fun _ _ _ _ q => q
      | 12, _ => exact fun _ _ _ _ q => q
      | 13, h => exact absurd rfl h
      | 14, _ => exact fun _ _ _ _ q => q
      | 15, _ => exact fun _ _ _ _ q => q
      | j + 16, _ => exact fun _ _ _ _ q => trivial
    case steps =>
      refine ⟨?_, ?_, ?_, ?_, ?_, ?_, ?_, ?_, ?_, ?_, ?_, ?_, ?_, ?_, ?_, ?_, trivial⟩
      all_goals
        intro u0 u1 u2 u3 u4 u5 u6 u7 u8 u9 u10 u11 u12 u13 u14 u15 u16 w9 he hk
        simp [KnownD, Oper.looksAt, Op.operands, Call.operands, List.findIdx?_cons, Act.put] at hk
        simp only [Act.put, List.setIfInBounds_toArray, List.set_cons_succ, List.set_cons_zero]
      · go_wp2_with fail
        exact ⟨rfl, Ext.refl _, rfl⟩
      · go_wp2_with fail
        exact ⟨rfl, Ext.refl _, rfl⟩
      · obtain rfl : u1 = _ := hk
        go_wp2_with fail
        exact ⟨rfl, Ext.refl _, rfl⟩
      · obtain rfl : u2 = _ := hk
        go_wp2_with fail
        exact ⟨rfl, Ext.refl _, rfl⟩
      · obtain rfl : u3 = _ := hk
        have he' : Upd (fun k => v0.ownBlock = some k) w2 w9 := he
        have hc : w9.cell? ⟨p, 1, none⟩ = some v0 := by rw [blk_cell (he'.heap HP.out HNP.out)]; rfl
        go_wp2_with fail
        exact ⟨rfl, Ext.refl _, rfl⟩
      · go_wp2_with fail
        exact ⟨rfl, Ext.refl _, rfl⟩
      · obtain rfl : u5 = _ := hk
        go_wp2_with fail
        exact ⟨rfl, Ext.refl _, rfl⟩
      · obtain rfl : u6 = _ := hk
        go_wp2_with fail
        exact ⟨rfl, Ext.refl _, rfl⟩
      · obtain rfl : u7 = _ := hk
        have he' : Upd (fun k => v0.ownBlock = some k) w2 w9 := he
        have hc : w9.cell? ⟨q, 1, none⟩ = some sx := by rw [blk_cell (he'.heap HQ.out HNQ.out)]; rfl
        go_wp2_with fail
        exact ⟨rfl, Ext.refl _, rfl⟩
      · go_wp2_with fail
        exact ⟨rfl, Ext.refl _, rfl⟩
      · obtain rfl : u9 = _ := hk
        go_wp2_with fail
        exact ⟨rfl, Ext.refl _, rfl⟩
      · obtain rfl : u10 = _ := hk
        go_wp2_with fail
        exact ⟨rfl, Ext.refl _, rfl⟩
      · obtain rfl : u11 = _ := hk
        have he' : Upd (fun k => v0.ownBlock = some k) w2 w9 := he
        have hc : w9.cell? ⟨r, 1, none⟩ = some sy := by rw [blk_cell (he'.heap HR.out HNR.out)]; rfl
        go_wp2_with fail
        exact ⟨rfl, Ext.refl _, rfl⟩
      · obtain ⟨k0, k1, k2⟩ := hk
        have e0 : u4 = v0 := k0
        have e1 : u8 = sx := k1
        have e2 : u12 = sy := k2
        clear k0 k1 k2
        subst u4 u8 u12
        have he' : Ext w2 w9 := he
        have HE9 := Lib.hid he'
        clear he he'
        go_wp2_with fail
        refine (natSub_any _ _ _ vs xs ys _ (HV0.out.ext (HE0.out.trans HE9.out)) (HX0.out.ext (HE0.out.trans HE9.out)) (HY0.out.ext (HE0.out.trans HE9.out)) HNX.out HNY.out L hL hlx hcmp).mono ?_
        rintro e w8 ⟨ws, g1, g2, g3, v', rfl, g4, g5, g6⟩
        have HD := Lib.hid (show NatD v0 (val xs - val ys) L w2 v' w8 from ⟨ws, g1, g2, g3, g4, (HE9.out.upd).same g5⟩)
        have HU8 := Lib.hid g5
        clear g1 g2 g4 g5 g6
        go_wp2_with fail
        exact ⟨rfl, HU8.out, HD.out⟩
      · obtain rfl : u0 = _ := hk
        go_wp2_with fail
        exact ⟨rfl, Ext.refl _, rfl⟩
      · obtain rfl : u14 = _ := hk
        go_wp2_with fail
        exact ⟨rfl, Ext.refl _, rfl⟩
    case last =>
      intro w3 he u0 h0 u1 h1 u2 h2 u3 h3 u4 h4 u5 h5 u6 h6 u7 h7 u8 h8 u9 h9 u10 h10 u11 h11 u12 h12 u13 h13 u14 h14 u15 h15
      obtain rfl : u15 = _ := h15
      obtain ⟨ws, g1, g2, g3, g4, g5⟩ := h13
      clear h0 h1 h2 h3 h4 h5 h6 h7 h8 h9 h10 h11 h12 h14
      have hp1 := g5.heap HP.out HNP.out
      obtain ⟨a', c', rfl⟩ := g4.form
      have d0 := blk_cell hp1 0
      have d1 := blk_cell hp1 1
      have f0 := blk_free hp1 0
      have f1 := blk_free hp1 1
      simp at d0 d1
      have hlen : ws.length ≤ 9223372036854775807 := by omega
      have HP1 := Lib.hid hp1
      have HO := Lib.hid g4
      have HG1 := Lib.hid g1
      have HG2 := Lib.hid g2
      have HG5 := Lib.hid (HUW.out.same g5)
      clear hp1 g1 g2 g4 g5 he
      simp only [LastD, Act.put, List.setIfInBounds_toArray, List.set_cons_succ, List.set_cons_zero]
      by_cases hpos : 0 < ws.length
      · go_wp2_with fail
        go_ret
        obtain ⟨i1, i2⟩ := intAt_store (n := nx) HP1.out HO.out
        refine ⟨rfl, ws, ?_, HG1.out, HG2.out, g3, (HG5.out.trans i2).mono (fun k hk q => q.elim .inr .inl)⟩
        rw [show (decide (0 < ws.length) && nx) = nx by simp [hpos]]
        exact i1
      · have hd : decide ((0 : Int) < (ws.length : Int)) = false := decide_eq_false (by omega)
        go_wp2_with fail
        go_ret
        obtain ⟨i1, i2⟩ := intAt_store (n := false) HP1.out HO.out
        refine ⟨rfl, ws, ?_, HG1.out, HG2.out, g3, (HG5.out.trans i2).mono (fun k hk q => q.elim .inr .inl)⟩
        rw [show (decide (0 < ws.length) && nx) = false by simp [hpos]]
        exact i1

set_option maxRecDepth 100000 in
set_option maxHeartbeats 2000000 in
theorem intSub_C (p q r : Nat) (n0 nx ny : Bool) (v0 sx sy : Value) (vs xs ys : List Nat) (L : Nat) (w : World) (hp : w.heap[p]? = some (.cells #[.bool n0, v0] 70 (0, 0))) (hq : w.heap[q]? = some (.cells #[.bool nx, sx] 70 (0, 0))) (hr : w.heap[r]? = some (.cells #[.bool ny, sy] 70 (0, 0))) (hv : Own .u64 w 0 80 v0 vs) (hx : Own .u64 w 0 80 sx xs) (hy : Own .u64 w 0 80 sy ys) (hnx : norm xs = xs) (hny : norm ys = ys) (hL : L ≤ 17592186044416) (hlx : xs.length ≤ L) (hly : ys.length ≤ L) (ht : nx = ny) (hcmp : val xs < val ys) :
    Calls Try.prog 45 #[.pointer (some ⟨p, 0, none⟩), .pointer (some ⟨q, 0, none⟩), .pointer (some ⟨r, 0, none⟩)] w (SumR p v0 (val ys - val xs) L (!nx) w) := by
  have hnp := hv.not hp (by decide)
  have hnq := hv.not hq (by decide)
  have hnr := hv.not hr (by decide)
  have hcq := blk_cell hq 0
  have hcr := blk_cell hr 0
  simp at hcq hcr
  have htest : (nx == ny) = true := by cases nx <;> cases ny <;> simp at ht ⊢
  obtain ⟨a0, c0, rfl⟩ := hv.form
  obtain ⟨ax, cx, rfl⟩ := hx.form
  obtain ⟨ay, cy, rfl⟩ := hy.form
  generalize hv0 : Value.slice a0 vs.length c0 = v0 at *
  generalize hsx : Value.slice ax xs.length cx = sx at *
  generalize hsy : Value.slice ay ys.length cy = sy at *
  have HP0 := Lib.hid hp
  have HQ0 := Lib.hid hq
  have HR0 := Lib.hid hr
  have HV0 := Lib.hid hv
  have HX0 := Lib.hid hx
  have HY0 := Lib.hid hy
  have HNX := Lib.hid hnx
  have HNY := Lib.hid hny
  have HNP := Lib.hid hnp
  have HNQ := Lib.hid hnq
  have HNR := Lib.hid hnr
  have HFX := Lib.hid hsx
  have HFY := Lib.hid hsy
  have HFV := Lib.hid hv0
  clear hp hq hr hv hx hy hnx hny hnp hnq hnr ht hsx hsy hv0
  go_enter Try.func45, Try.ntmps45
  go_wp2_with fail
  go_quiet (fail)
  have hE0 : Ext w (w.drewN nq) := Ext.drewN w nq
  clear hcq hcr
  generalize w.drewN nq = w1 at *
  have HE0 := Lib.hid hE0
  clear hE0
  go_wp2_with fail
  obtain ⟨cc, hcc, hcd⟩ : ∃ cc : Int, cmpW xs ys = cc ∧ decide (0 ≤ cc) = false := ⟨_, rfl, by rw [cmpW_lt hcmp]; rfl⟩
  have HCC := Lib.hid hcc
  clear hcc
  refine wp_region_D preExt mixed [Is (.pointer (some ⟨q, 0, none⟩)), Is (.pointer (some ⟨q, 0, none⟩)), Is (.pointer (some ⟨q, 1, none⟩)), Is sx, Is (.pointer (some ⟨r, 0, none⟩)), Is (.pointer (some ⟨r, 0, none⟩)), Is (.pointer (some ⟨r, 1, none⟩)), Is sy, Is (.int .i64 cc)] (by kernel_rfl) ?mono rfl ?steps ?last
  case mono =>
    simp only [List.forall_mem_cons, List.not_mem_nil, false_implies, implies_true, and_true]
    refine ⟨?_, ?_, ?_, ?_, ?_, ?_, ?_, ?_, ?_⟩
    all_goals exact fun _ _ _ _ q => q
  case steps =>
    refine ⟨?_, ?_, ?_, ?_, ?_, ?_, ?_, ?_, ?_, trivial⟩
    all_goals
      intro u0 u1 u2 u3 u4 u5 u6 u7 u8 u9 w9 he hk
      simp [KnownD, Oper.looksAt, Op.operands, Call.operands, List.findIdx?_cons, Act.put] at hk
      simp only [Act.put, List.setIfInBounds_toArray, List.set_cons_succ, List.set_cons_zero]
    · go_wp2_with fail
      exact ⟨rfl, Ext.refl _, rfl⟩
    · obtain rfl : u0 = _ := hk
      go_wp2_with fail
      exact ⟨rfl, Ext.refl _, rfl⟩
    · obtain rfl : u1 = _ := hk
      go_wp2_with fail
      exact ⟨rfl, Ext.refl _, rfl⟩
    · obtain rfl : u2 = _ := hk
      have hc : w9.cell? ⟨q, 1, none⟩ = some sx := by rw [blk_cell (he.block (HE0.out.block HQ0.out))]; rfl
      go_wp2_with fail
      exact ⟨rfl, Ext.refl _, rfl⟩
    · go_wp2_with fail
      exact ⟨rfl, Ext.refl _, rfl⟩
    · obtain rfl : u4 = _ := hk
      go_wp2_with fail
      exact ⟨rfl, Ext.refl _, rfl⟩
    · obtain rfl : u5 = _ := hk
      go_wp2_with fail
      exact ⟨rfl, Ext.refl _, rfl⟩
    · obtain rfl : u6 = _ := hk
      have hc : w9.cell? ⟨r, 1, none⟩ = some sy := by rw [blk_cell (he.block (HE0.out.block HR0.out))]; rfl
      go_wp2_with fail
      exact ⟨rfl, Ext.refl _, rfl⟩
    · obtain ⟨k0, k1⟩ := hk
      have e0 : u3 = sx := k0
      have e1 : u7 = sy := k1
      clear k0 k1
      subst u3 u7
      have HE9 := Lib.hid he
      clear he
      go_wp2_with fail
      refine (cmp_own 0 0 _ _ xs ys _ (HX0.out.ext (HE0.out.trans HE9.out)) (HY0.out.ext (HE0.out.trans HE9.out)) HNX.out HNY.out (by omega) (by omega)).mono ?_
      rw [HCC.out]
      rintro e w8 ⟨he8, rfl⟩
      go_wp2_with fail
      exact ⟨rfl, he8, rfl⟩
  case last =>
    intro w2 he u0 h0 u1 h1 u2 h2 u3 h3 u4 h4 u5 h5 u6 h6 u7 h7 u8 h8
    obtain rfl : u8 = _ := h8
    clear h0 h1 h2 h3 h4 h5 h6 h7
    replace HE0 := Lib.hid (HE0.out.trans he)
    clear he
    have HP := Lib.hid (HE0.out.block HP0.out)
    have HQ := Lib.hid (HE0.out.block HQ0.out)
    have HR := Lib.hid (HE0.out.block HR0.out)
    have HUW : Hid (Upd (fun k => v0.ownBlock = some k) w w2) := Lib.hid HE0.out.upd
    simp only [LastD, Act.put, List.setIfInBounds_toArray, List.set_cons_succ, List.set_cons_zero]
    go_wp2_with fail
    refine wp_region_H preExt (preUpd (fun k => v0.ownBlock = some k)) (fun _ _ h => h.upd) 13 mixed [Is (.pointer (some ⟨p, 0, none⟩)), Is (.pointer (some ⟨p, 0, none⟩)), Is (.pointer (some ⟨p, 0, none⟩)), Is (.pointer (some ⟨p, 1, none⟩)), Is v0, Is (.pointer (some ⟨r, 0, none⟩)), Is (.pointer (some ⟨r, 0, none⟩)), Is (.pointer (some ⟨r, 1, none⟩)), Is sy, Is (.pointer (some ⟨q, 0, none⟩)), Is (.pointer (some ⟨q, 0, none⟩)), Is (.pointer (some ⟨q, 1, none⟩)), Is sx, NatD v0 (val ys - val xs) L w2, Is (.pointer (some ⟨p, 0, none⟩)), Is (.pointer (some ⟨p, 1, none⟩))] (by kernel_rfl) ?mono ?monoU rfl ?steps ?last
    case mono =>
      simp only [List.forall_mem_cons, List.not_mem_nil, false_implies, implies_true, and_true]
      refine ⟨?_, ?_, ?_, ?_, ?_, ?_, ?_, ?_, ?_, ?_, ?_, ?_, ?_, ?_, ?_, ?_⟩
      all_goals first | exact fun _ _ _ _ q => q | exact fun _ _ _ he q => q.ext he
    case monoU =>
      intro j hj
      match j, hj with
      | 0, _ => exact fun _ _ _ _ q => q
      | 1, _ => exact fun _ _ _ _ q => q
      | 2, _ => exact fun _ _ _ _ q => q
      | 3, _ => exact fun _ _ _ _ q => q
      | 4, _ => exact fun _ _ _ _ q => q
      | 5, _ => exact fun _ _ _ _ q => q
      | 6, _ => exact fun _ _ _ _ q => q
      | 7, _ => exact fun _ _ _ _ q => q
      | 8, _ => exact fun _ _ _ _ q => q
      | 9, _ => exact fun _ _ _ _ q => q
      | 10, _ => exact fun _ _ _ _ q => q
      | 11, _ => exact fun _ _ _ _ q => q
      | 12, _ => exact fun _ _ _ _ q => q
      | 13, h => exact absurd rfl h
      | 14, _ => exact fun _ _ _ _ q => q
      | 15, _ => exact fun _ _ _ _ q => q
      | j + 16, _ => exact fun _ _ _ _ q => trivial
    case steps =>
      refine ⟨?_, ?_, ?_, ?_, ?_, ?_, ?_, ?_, ?_, ?_, ?_, ?_, ?_, ?_, ?_, ?_, trivial⟩
      all_goals
        intro u0 u1 u2 u3 u4 u5 u6 u7 u8 u9 u10 u11 u12 u13 u14 u15 u16 w9 he hk
        simp [KnownD, Oper.looksAt, Op.operands, Call.operands, List.findIdx?_cons, Act.put] at hk
        simp only [Act.put, List.setIfInBounds_toArray, List.set_cons_succ, List.set_cons_zero]
      · go_wp2_with fail
        exact ⟨rfl, Ext.refl _, rfl⟩
      · go_wp2_with fail
        exact ⟨rfl, Ext.refl _, rfl⟩
      · obtain rfl : u1 = _ := hk
        go_wp2_with fail
        exact ⟨rfl, Ext.refl _, rfl⟩
      · obtain rfl : u2 = _ := hk
        go_wp2_with fail
        exact ⟨rfl, Ext.refl _, rfl⟩
      · obtain rfl : u3 = _ := hk
        have he' : Upd (fun k => v0.ownBlock = some k) w2 w9 := he
        have hc : w9.cell? ⟨p, 1, none⟩ = some v0 := by rw [blk_cell (he'.heap HP.out HNP.out)]; rfl
        go_wp2_with fail
        exact ⟨rfl, Ext.refl _, rfl⟩
      · go_wp2_with fail
        exact ⟨rfl, Ext.refl _, rfl⟩
      · obtain rfl : u5 = _ := hk
        go_wp2_with fail
        exact ⟨rfl, Ext.refl _, rfl⟩
      · obtain rfl : u6 = _ := hk
        go_wp2_with fail
        exact ⟨rfl, Ext.refl _, rfl⟩
      · obtain rfl : u7 = _ := hk
        have he' : Upd (fun k => v0.ownBlock = some k) w2 w9 := he
        have hc : w9.cell? ⟨r, 1, none⟩ = some sy := by rw [blk_cell (he'.heap HR.out HNR.out)]; rfl
        go_wp2_with fail
        exact ⟨rfl, Ext.refl _, rfl⟩
      · go_wp2_with fail
        exact ⟨rfl, Ext.refl _, rfl⟩
      · obtain rfl : u9 = _ := hk
        go_wp2_with fail
        exact ⟨rfl, Ext.refl _, rfl⟩
      · obtain rfl : u10 = _ := hk
        go_wp2_with fail
        exact ⟨rfl, Ext.refl _, rfl⟩
      · obtain rfl : u11 = _ := hk
        have he' : Upd (fun k => v0.ownBlock = some k) w2 w9 := he
        have hc : w9.cell? ⟨q, 1, none⟩ = some sx := by rw [blk_cell (he'.heap HQ.out HNQ.out)]; rfl
        go_wp2_with fail
        exact ⟨rfl, Ext.refl _, rfl⟩
      · obtain ⟨k0, k1, k2⟩ := hk
        have e0 : u4 = v0 := k0
        have e1 : u8 = sy := k1
        have e2 : u12 = sx := k2
        clear k0 k1 k2
        subst u4 u8 u12
        have he' : Ext w2 w9 := he
        have HE9 := Lib.hid he'
        clear he he'
        go_wp2_with fail
        refine (natSub_any _ _ _ vs ys xs _ (HV0.out.ext (HE0.out.trans HE9.out)) (HY0.out.ext (HE0.out.trans HE9.out)) (HX0.out.ext (HE0.out.trans HE9.out)) HNY.out HNX.out L hL hly (by omega)).mono ?_
        rintro e w8 ⟨ws, g1, g2, g3, v', rfl, g4, g5, g6⟩
        have HD := Lib.hid (show NatD v0 (val ys - val xs) L w2 v' w8 from ⟨ws, g1, g2, g3, g4, (HE9.out.upd).same g5⟩)
        have HU8 := Lib.hid g5
        clear g1 g2 g4 g5 g6
        go_wp2_with fail
        exact ⟨rfl, HU8.out, HD.out⟩
      · obtain rfl : u0 = _ := hk
        go_wp2_with fail
        exact ⟨rfl, Ext.refl _, rfl⟩
      · obtain rfl : u14 = _ := hk
        go_wp2_with fail
        exact ⟨rfl, Ext.refl _, rfl⟩
    case last =>
      intro w3 he u0 h0 u1 h1 u2 h2 u3 h3 u4 h4 u5 h5 u6 h6 u7 h7 u8 h8 u9 h9 u10 h10 u11 h11 u12 h12 u13 h13 u14 h14 u15 h15
      obtain rfl : u15 = _ := h15
      obtain ⟨ws, g1, g2, g3, g4, g5⟩ := h13
      clear h0 h1 h2 h3 h4 h5 h6 h7 h8 h9 h10 h11 h12 h14
      have hp1 := g5.heap HP.out HNP.out
      obtain ⟨a', c', rfl⟩ := g4.form
      have d0 := blk_cell hp1 0
      have d1 := blk_cell hp1 1
      have f0 := blk_free hp1 0
      have f1 := blk_free hp1 1
      simp at d0 d1
      have hlen : ws.length ≤ 9223372036854775807 := by omega
      have HP1 := Lib.hid hp1
      have HO := Lib.hid g4
      have HG1 := Lib.hid g1
      have HG2 := Lib.hid g2
      have HG5 := Lib.hid (HUW.out.same g5)
      clear hp1 g1 g2 g4 g5 he
      simp only [LastD, Act.put, List.setIfInBounds_toArray, List.set_cons_succ, List.set_cons_zero]
      by_cases hpos : 0 < ws.length
      · go_wp2_with fail
        go_ret
        obtain ⟨i1, i2⟩ := intAt_store (n := (!nx)) HP1.out HO.out
        refine ⟨rfl, ws, ?_, HG1.out, HG2.out, g3, (HG5.out.trans i2).mono (fun k hk q => q.elim .inr .inl)⟩
        rw [show (decide (0 < ws.length) && (!nx)) = (!nx) by simp [hpos]]
        exact i1
      · have hd : decide ((0 : Int) < (ws.length : Int)) = false := decide_eq_false (by omega)
        go_wp2_with fail
        go_ret
        obtain ⟨i1, i2⟩ := intAt_store (n := false) HP1.out HO.out
        refine ⟨rfl, ws, ?_, HG1.out, HG2.out, g3, (HG5.out.trans i2).mono (fun k hk q => q.elim .inr .inl)⟩
        rw [show (decide (0 < ws.length) && (!nx)) = false by simp [hpos]]
        exact i1

end Go.Proofs.Ytacmojhladdalaa
