/- FnReceiverHeld: one case (printed by lawgen.py). -/
import Derived.Test.YtacmojhladdalaaLaw32
set_option linter.unusedSimpArgs false
set_option linter.unusedVariables false
namespace Go.Proofs.Ytacmojhladdalaa
open Go.RowKit

set_option maxRecDepth 100000 in
set_option maxHeartbeats 4000000 in
theorem fnReceiverHeld_t3 (k : Int) (n1 : Bool) (v1 : Value) (ws1 : List Nat) (n2 : Bool) (v2 : Value) (ws2 : List Nat) (n3 : Bool) (v3 : Value) (ws3 : List Nat) (w : World) (hr1 : Rd .u64 w v1 ws1) (hl1 : ws1.length ≤ 17592186043904) (hr2 : Rd .u64 w v2 ws2) (hl2 : ws2.length ≤ 17592186043904) (hr3 : Rd .u64 w v3 ws3) (hl3 : ws3.length ≤ 17592186043904) (hk : k = 3) (hsec : ∀ a b : Int, secZ k a b = a) :
    Calls Try.prog 9 #[.int .i64 k, .agg #[.bool n1, v1], .agg #[.bool n2, v2], .agg #[.bool n3, v3]] w (ValR (.bool true) w) := by
  obtain ⟨a1, c1, rfl⟩ := hr1.form
  have hz1 : IsZ 17592186043904 (ival n1 ws1) (.agg #[.bool n1, .slice a1 ws1.length c1]) w := ⟨n1, _, ws1, rfl, hr1, hl1, rfl⟩
  generalize ival n1 ws1 = zz at hz1
  have HZ1 := Lib.hid hz1
  clear hz1 hr1
  obtain ⟨a2, c2, rfl⟩ := hr2.form
  have hz2 : IsZ 17592186043904 (ival n2 ws2) (.agg #[.bool n2, .slice a2 ws2.length c2]) w := ⟨n2, _, ws2, rfl, hr2, hl2, rfl⟩
  generalize ival n2 ws2 = x at hz2
  have HZ2 := Lib.hid hz2
  clear hz2 hr2
  obtain ⟨a3, c3, rfl⟩ := hr3.form
  have hz3 : IsZ 17592186043904 (ival n3 ws3) (.agg #[.bool n3, .slice a3 ws3.length c3]) w := ⟨n3, _, ws3, rfl, hr3, hl3, rfl⟩
  generalize ival n3 ws3 = y at hz3
  have HZ3 := Lib.hid hz3
  clear hz3 hr3
  have h3 : (k == 3) = true := by simp [hk]
  clear hk
  have HSEC := Lib.hid hsec
  clear hsec
  go_enter Try.func9, Try.ntmps9
  go_wp2_with fail
  have g1 := (Ext.alloc ((w.alloc (.cells #[.bool n1, .slice a1 ws1.length c1] 24)).alloc (.cells #[.bool n2, .slice a2 ws2.length c2] 24)) (.cells #[.bool n3, .slice a3 ws3.length c3] 24)).block ((Ext.alloc _ _).block (heap_alloc_new w (.cells #[.bool n1, .slice a1 ws1.length c1] 24)))
  have g2 := (Ext.alloc ((w.alloc (.cells #[.bool n1, .slice a1 ws1.length c1] 24)).alloc (.cells #[.bool n2, .slice a2 ws2.length c2] 24)) (.cells #[.bool n3, .slice a3 ws3.length c3] 24)).block (heap_second w (.cells #[.bool n1, .slice a1 ws1.length c1] 24) (.cells #[.bool n2, .slice a2 ws2.length c2] 24))
  have g3 := heap_third' w (.cells #[.bool n1, .slice a1 ws1.length c1] 24) (.cells #[.bool n2, .slice a2 ws2.length c2] 24) (.cells #[.bool n3, .slice a3 ws3.length c3] 24)
  have hE0 : Ext w (((w.alloc (.cells #[.bool n1, .slice a1 ws1.length c1] 24)).alloc (.cells #[.bool n2, .slice a2 ws2.length c2] 24)).alloc (.cells #[.bool n3, .slice a3 ws3.length c3] 24)) := ((Ext.alloc _ _).trans (Ext.alloc _ _)).trans (Ext.alloc _ _)
  have hsz3 : (((w.alloc (.cells #[.bool n1, .slice a1 ws1.length c1] 24)).alloc (.cells #[.bool n2, .slice a2 ws2.length c2] 24)).alloc (.cells #[.bool n3, .slice a3 ws3.length c3] 24)).heap.size = w.heap.size + 1 + 1 + 1 := by simp
  generalize (((w.alloc (.cells #[.bool n1, .slice a1 ws1.length c1] 24)).alloc (.cells #[.bool n2, .slice a2 ws2.length c2] 24)).alloc (.cells #[.bool n3, .slice a3 ws3.length c3] 24)) = w4 at *
  generalize hn0 : w4.heap.size = N0 at *
  have HE0 := Lib.hid hE0
  have G1 := Lib.hid g1
  have G2 := Lib.hid g2
  have G3 := Lib.hid g3
  have HSZ := Lib.hid (Nat.le_of_eq hsz3.symm)
  clear g1 g2 g3 hE0 hsz3
  refine wp_region_D preExt mixed [IsZ (17592186043904) (zz), IsW (17592186043904) (zz), IsZ (17592186043904) (x), IsW (17592186043904) (x), IsZ (17592186043904) (y), IsW (17592186043904) (y), IsT (17592186043905) (x + y) (x) (y), AtT N0] (by kernel_rfl) ?mono rfl ?steps ?last
  case mono =>
    simp only [List.forall_mem_cons, List.not_mem_nil, false_implies, implies_true, and_true]
    refine ⟨?_, ?_, ?_, ?_, ?_, ?_, ?_, ?_⟩
    all_goals first | exact fun _ _ _ _ q => q | exact fun _ _ _ he q => q.ext he
  case steps =>
    refine ⟨?_, ?_, ?_, ?_, ?_, ?_, ?_, ?_, trivial⟩
    all_goals
      intro u0 u1 u2 u3 u4 u5 u6 u7 u8 w1 he hk
      simp [KnownD, Oper.looksAt, Op.operands, Call.operands, List.findIdx?_cons, Act.put] at hk
      simp only [Act.put, List.setIfInBounds_toArray, List.set_cons_succ, List.set_cons_zero]
    · have hb := he.block G1.out
      have q0 := blk_cell hb 0
      have q1 := blk_cell hb 1
      simp at q0 q1
      clear hb
      go_wp2_with fail
      exact ⟨rfl, Ext.refl _, HZ1.out.ext (HE0.out.trans he)⟩
    · have k0 := hk
      have H0 := Lib.hid k0
      clear k0
      go_wp2_with fail
      refine (toImpl_z (17592186043904) (zz) _ _ (H0.out) (by omega)).mono ?_
      rintro e w2 ⟨he2, x, rfl, hx⟩
      have HX := Lib.hid hx
      clear hx
      go_wp2_with fail
      exact ⟨rfl, he2, HX.out⟩
    · have hb := he.block G2.out
      have q0 := blk_cell hb 0
      have q1 := blk_cell hb 1
      simp at q0 q1
      clear hb
      go_wp2_with fail
      exact ⟨rfl, Ext.refl _, HZ2.out.ext (HE0.out.trans he)⟩
    · have k0 := hk
      have H0 := Lib.hid k0
      clear k0
      go_wp2_with fail
      refine (toImpl_z (17592186043904) (x) _ _ (H0.out) (by omega)).mono ?_
      rintro e w2 ⟨he2, x, rfl, hx⟩
      have HX := Lib.hid hx
      clear hx
      go_wp2_with fail
      exact ⟨rfl, he2, HX.out⟩
    · have hb := he.block G3.out
      have q0 := blk_cell hb 0
      have q1 := blk_cell hb 1
      simp at q0 q1
      clear hb
      go_wp2_with fail
      exact ⟨rfl, Ext.refl _, HZ3.out.ext (HE0.out.trans he)⟩
    · have k0 := hk
      have H0 := Lib.hid k0
      clear k0
      go_wp2_with fail
      refine (toImpl_z (17592186043904) (y) _ _ (H0.out) (by omega)).mono ?_
      rintro e w2 ⟨he2, x, rfl, hx⟩
      have HX := Lib.hid hx
      clear hx
      go_wp2_with fail
      exact ⟨rfl, he2, HX.out⟩
    · obtain ⟨k0, k1, k2⟩ := hk
      have H1 := Lib.hid k0
      have H2 := Lib.hid k1
      have H3 := Lib.hid k2
      clear k0 k1 k2
      go_wp2_with fail
      refine (implAdd_h0 (17592186043904) zz x y _ _ _ _ (H1.out.z) (H2.out.z) (H3.out.z) (by omega)).mono ?_
      rintro e w2 ⟨he2, x, rfl, hx⟩
      have HX := Lib.hid hx
      clear hx
      go_wp2_with fail
      exact ⟨rfl, he2, HX.out⟩
    · have hsz : N0 ≤ w1.heap.size := by have := he.size; omega
      go_wp2_with fail
      exact ⟨rfl, Ext.alloc _ _, _, rfl, heap_alloc_new _ _, hsz⟩
  case last =>
    rename_i K aK
    have AK := Lib.hid aK
    clear aK
    intro wA he u0 h0 u1 h1 u2 h2 u3 h3 u4 h4 u5 h5 u6 h6 u7 h7
    obtain ⟨p1, rfl, hp, hge⟩ := h7
    have hy : IsT 17592186043905 (x + y) x y u6 wA := h6
    clear h0 h1 h2 h3 h4 h5 h6
    obtain ⟨np11, ap11, lp11, cp11, np12, ap12, lp12, cp12, np13, ap13, lp13, cp13, rfl, e1, e2, e3⟩ := hy.form
    clear hy
    simp only [LastD, Act.put, List.setIfInBounds_toArray, List.set_cons_succ, List.set_cons_zero]
    have d0 := blk_cell hp 0
    have f0 := blk_free hp 0
    have d1 := blk_cell hp 1
    have f1 := blk_free hp 1
    have d2 := blk_cell hp 2
    have f2 := blk_free hp 2
    have d3 := blk_cell hp 3
    have f3 := blk_free hp 3
    have d4 := blk_cell hp 4
    have f4 := blk_free hp 4
    have d5 := blk_cell hp 5
    have f5 := blk_free hp 5
    simp at d0 d1 d2 d3 d4 d5
    have HP := Lib.hid hp
    have HE5 := Lib.hid he
    have HGE := Lib.hid hge
    have HY1 := Lib.hid e1
    have HY2 := Lib.hid e2
    have HY3 := Lib.hid e3
    clear e2 e3
    clear hp he hge e1
    go_wp2_with fail
    have q9 := put6_heap HP.out (.bool np11) (.slice ap11 lp11 cp11) (.bool np12) (.slice ap12 lp12 cp12) (.bool np13) (.slice ap13 lp13 cp13)
    have hu := put6_upd wA p1 (.bool np11) (.slice ap11 lp11 cp11) (.bool np12) (.slice ap12 lp12 cp12) (.bool np13) (.slice ap13 lp13 cp13)
    change K _ (put6 wA p1 (.bool np11) (.slice ap11 lp11 cp11) (.bool np12) (.slice ap12 lp12 cp12) (.bool np13) (.slice ap13 lp13 cp13))
    have HEQ := Lib.hid (hu.ext (HE0.out.trans HE5.out) (by intro i hi; subst hi; have := HGE.out; have := HSZ.out; omega))
    have hge9 := HGE.out
    have hsz9 := HSZ.out
    have q1 := hu.heap (HE5.out.block G1.out) (by omega)
    have q2 := hu.heap (HE5.out.block G2.out) (by omega)
    have q3 := hu.heap (HE5.out.block G3.out) (by omega)
    have HV1 := Lib.hid (HY1.out.upd HP.out (by decide) hu)
    have HV2 := Lib.hid (HY2.out.upd HP.out (by decide) hu)
    have HV3 := Lib.hid (HY3.out.upd HP.out (by decide) hu)
    have hlt9 : p1 < (put6 wA p1 (.bool np11) (.slice ap11 lp11 cp11) (.bool np12) (.slice ap12 lp12 cp12) (.bool np13) (.slice ap13 lp13 cp13)).heap.size := (Array.getElem?_eq_some_iff.1 q9).1
    have hsq : N0 ≤ (put6 wA p1 (.bool np11) (.slice ap11 lp11 cp11) (.bool np12) (.slice ap12 lp12 cp12) (.bool np13) (.slice ap13 lp13 cp13)).heap.size := Nat.le_trans (by have := HE5.out.size; omega) hu.size
    generalize put6 wA p1 (.bool np11) (.slice ap11 lp11 cp11) (.bool np12) (.slice ap12 lp12 cp12) (.bool np13) (.slice ap13 lp13 cp13) = w_Q at *
    generalize hnQ : w_Q.heap.size = N1 at *
    have Q1 := Lib.hid q1
    have Q2 := Lib.hid q2
    have Q3 := Lib.hid q3
    have Q4 := Lib.hid q9
    have HP4 := Lib.hid hlt9
    replace HSZ := Lib.hid (Nat.le_trans HSZ.out hsq)
    clear q9 q1 q2 q3 hu hge9 hsz9 hlt9 hsq HP HE5 HGE HY1 HY2 HY3 d0 f0 d1 f1 d2 f2 d3 f3 d4 f4 d5 f5
    refine AK.out _ _ ?_
    clear AK
    have HA0 := HV1
    have HA1 := HV2
    have HA2 := HV3
    clear HV1 HV2 HV3
    go_wp2_with fail

    refine wp_region_D preExt mixed [IsZ (17592186043904) (zz), IsW (17592186043904) (zz), IsZ (17592186043904) (x), IsW (17592186043904) (x), IsZ (17592186043904) (y), IsW (17592186043904) (y), IsT (17592186043905) (x - y) (x) (y), AtT N1] (by kernel_rfl) ?mono rfl ?steps ?last
    case mono =>
      simp only [List.forall_mem_cons, List.not_mem_nil, false_implies, implies_true, and_true]
      refine ⟨?_, ?_, ?_, ?_, ?_, ?_, ?_, ?_⟩
      all_goals first | exact fun _ _ _ _ q => q | exact fun _ _ _ he q => q.ext he
    case steps =>
      refine ⟨?_, ?_, ?_, ?_, ?_, ?_, ?_, ?_, trivial⟩
      all_goals
        intro u0 u1 u2 u3 u4 u5 u6 u7 u8 w1 he hk
        simp [KnownD, Oper.looksAt, Op.operands, Call.operands, List.findIdx?_cons, Act.put] at hk
        simp only [Act.put, List.setIfInBounds_toArray, List.set_cons_succ, List.set_cons_zero]
      · have hb := he.block Q1.out
        have q0 := blk_cell hb 0
        have q1 := blk_cell hb 1
        simp at q0 q1
        clear hb
        go_wp2_with fail
        exact ⟨rfl, Ext.refl _, HZ1.out.ext (HEQ.out.trans he)⟩
      · have k0 := hk
        have H0 := Lib.hid k0
        clear k0
        go_wp2_with fail
        refine (toImpl_z (17592186043904) (zz) _ _ (H0.out) (by omega)).mono ?_
        rintro e w2 ⟨he2, x, rfl, hx⟩
        have HX := Lib.hid hx
        clear hx
        go_wp2_with fail
        exact ⟨rfl, he2, HX.out⟩
      · have hb := he.block Q2.out
        have q0 := blk_cell hb 0
        have q1 := blk_cell hb 1
        simp at q0 q1
        clear hb
        go_wp2_with fail
        exact ⟨rfl, Ext.refl _, HZ2.out.ext (HEQ.out.trans he)⟩
      · have k0 := hk
        have H0 := Lib.hid k0
        clear k0
        go_wp2_with fail
        refine (toImpl_z (17592186043904) (x) _ _ (H0.out) (by omega)).mono ?_
        rintro e w2 ⟨he2, x, rfl, hx⟩
        have HX := Lib.hid hx
        clear hx
        go_wp2_with fail
        exact ⟨rfl, he2, HX.out⟩
      · have hb := he.block Q3.out
        have q0 := blk_cell hb 0
        have q1 := blk_cell hb 1
        simp at q0 q1
        clear hb
        go_wp2_with fail
        exact ⟨rfl, Ext.refl _, HZ3.out.ext (HEQ.out.trans he)⟩
      · have k0 := hk
        have H0 := Lib.hid k0
        clear k0
        go_wp2_with fail
        refine (toImpl_z (17592186043904) (y) _ _ (H0.out) (by omega)).mono ?_
        rintro e w2 ⟨he2, x, rfl, hx⟩
        have HX := Lib.hid hx
        clear hx
        go_wp2_with fail
        exact ⟨rfl, he2, HX.out⟩
      · obtain ⟨k0, k1, k2⟩ := hk
        have H1 := Lib.hid k0
        have H2 := Lib.hid k1
        have H3 := Lib.hid k2
        clear k0 k1 k2
        go_wp2_with fail
        refine (implSub_h0 (17592186043904) zz x y _ _ _ _ (H1.out.z) (H2.out.z) (H3.out.z) (by omega)).mono ?_
        rintro e w2 ⟨he2, x, rfl, hx⟩
        have HX := Lib.hid hx
        clear hx
        go_wp2_with fail
        exact ⟨rfl, he2, HX.out⟩
      · have hsz : N1 ≤ w1.heap.size := by have := he.size; omega
        go_wp2_with fail
        exact ⟨rfl, Ext.alloc _ _, _, rfl, heap_alloc_new _ _, hsz⟩
    case last =>
      rename_i K aK
      have AK := Lib.hid aK
      clear aK
      intro wA he u0 h0 u1 h1 u2 h2 u3 h3 u4 h4 u5 h5 u6 h6 u7 h7
      obtain ⟨p2, rfl, hp, hge⟩ := h7
      have hy : IsT 17592186043905 (x - y) x y u6 wA := h6
      clear h0 h1 h2 h3 h4 h5 h6
      obtain ⟨np21, ap21, lp21, cp21, np22, ap22, lp22, cp22, np23, ap23, lp23, cp23, rfl, e1, e2, e3⟩ := hy.form
      clear hy
      simp only [LastD, Act.put, List.setIfInBounds_toArray, List.set_cons_succ, List.set_cons_zero]
      have d0 := blk_cell hp 0
      have f0 := blk_free hp 0
      have d1 := blk_cell hp 1
      have f1 := blk_free hp 1
      have d2 := blk_cell hp 2
      have f2 := blk_free hp 2
      have d3 := blk_cell hp 3
      have f3 := blk_free hp 3
      have d4 := blk_cell hp 4
      have f4 := blk_free hp 4
      have d5 := blk_cell hp 5
      have f5 := blk_free hp 5
      simp at d0 d1 d2 d3 d4 d5
      have HP := Lib.hid hp
      have HE5 := Lib.hid he
      have HGE := Lib.hid hge
      have HY1 := Lib.hid e1
      have HY2 := Lib.hid e2
      have HY3 := Lib.hid e3
      clear e2 e3
      clear hp he hge e1
      go_wp2_with fail
      have q9 := put6_heap HP.out (.bool np21) (.slice ap21 lp21 cp21) (.bool np22) (.slice ap22 lp22 cp22) (.bool np23) (.slice ap23 lp23 cp23)
      have hu := put6_upd wA p2 (.bool np21) (.slice ap21 lp21 cp21) (.bool np22) (.slice ap22 lp22 cp22) (.bool np23) (.slice ap23 lp23 cp23)
      change K _ (put6 wA p2 (.bool np21) (.slice ap21 lp21 cp21) (.bool np22) (.slice ap22 lp22 cp22) (.bool np23) (.slice ap23 lp23 cp23))
      have HER := Lib.hid (hu.ext (HEQ.out.trans HE5.out) (by intro i hi; subst hi; have := HGE.out; have := HSZ.out; omega))
      have hge9 := HGE.out
      have hsz9 := HSZ.out
      have q1 := hu.heap (HE5.out.block Q1.out) (by omega)
      have q2 := hu.heap (HE5.out.block Q2.out) (by omega)
      have q3 := hu.heap (HE5.out.block Q3.out) (by omega)
      have q4 := hu.heap (HE5.out.block Q4.out) (by have := HP4.out; omega)
      have HV1 := Lib.hid (HY1.out.upd HP.out (by decide) hu)
      have HV2 := Lib.hid (HY2.out.upd HP.out (by decide) hu)
      have HV3 := Lib.hid (HY3.out.upd HP.out (by decide) hu)
      replace HA0 := Lib.hid ((HA0.out.ext HE5.out).upd HP.out (by decide) hu)
      replace HA1 := Lib.hid ((HA1.out.ext HE5.out).upd HP.out (by decide) hu)
      replace HA2 := Lib.hid ((HA2.out.ext HE5.out).upd HP.out (by decide) hu)
      have hlt9 : p2 < (put6 wA p2 (.bool np21) (.slice ap21 lp21 cp21) (.bool np22) (.slice ap22 lp22 cp22) (.bool np23) (.slice ap23 lp23 cp23)).heap.size := (Array.getElem?_eq_some_iff.1 q9).1
      have hsq : N1 ≤ (put6 wA p2 (.bool np21) (.slice ap21 lp21 cp21) (.bool np22) (.slice ap22 lp22 cp22) (.bool np23) (.slice ap23 lp23 cp23)).heap.size := Nat.le_trans (by have := HE5.out.size; omega) hu.size
      generalize put6 wA p2 (.bool np21) (.slice ap21 lp21 cp21) (.bool np22) (.slice ap22 lp22 cp22) (.bool np23) (.slice ap23 lp23 cp23) = w_R at *
      generalize hnR : w_R.heap.size = N2 at *
      have R1 := Lib.hid q1
      have R2 := Lib.hid q2
      have R3 := Lib.hid q3
      have R4 := Lib.hid q4
      replace HP4 := Lib.hid (Nat.lt_of_lt_of_le HP4.out hsq)
      have R5 := Lib.hid q9
      have HP5 := Lib.hid hlt9
      replace HSZ := Lib.hid (Nat.le_trans HSZ.out hsq)
      clear q9 q1 q2 q3 q4 hu hge9 hsz9 hlt9 hsq HP HE5 HGE HY1 HY2 HY3 d0 f0 d1 f1 d2 f2 d3 f3 d4 f4 d5 f5
      refine AK.out _ _ ?_
      clear AK
      have HB0 := HV1
      have HB1 := HV2
      have HB2 := HV3
      clear HV1 HV2 HV3
      go_wp2_with fail

      refine wp_region_D preExt mixed [Is (.int .i64 k), IsZ (17592186043904) (zz), IsW (17592186043904) (zz), IsZ (17592186043904) (x), IsW (17592186043904) (x), IsZ (17592186043904) (y), IsW (17592186043904) (y), IsT (17592186043905) (x - secZ k x y) (aftX k (x - secZ k x y) x) (aftY k (x - secZ k x y) (secZ k x y)), IsC (17592186043905) (x - secZ k x y), IsC (17592186043905) (x - secZ k x y), AtQ N2] (by kernel_rfl) ?mono rfl ?steps ?last
      case mono =>
        simp only [List.forall_mem_cons, List.not_mem_nil, false_implies, implies_true, and_true]
        refine ⟨?_, ?_, ?_, ?_, ?_, ?_, ?_, ?_, ?_, ?_, ?_⟩
        all_goals first | exact fun _ _ _ _ q => q | exact fun _ _ _ he q => q.ext he
      case steps =>
        refine ⟨?_, ?_, ?_, ?_, ?_, ?_, ?_, ?_, ?_, ?_, ?_, trivial⟩
        all_goals
          intro u0 u1 u2 u3 u4 u5 u6 u7 u8 u9 u10 u11 w1 he hk
          simp [KnownD, Oper.looksAt, Op.operands, Call.operands, List.findIdx?_cons, Act.put] at hk
          simp only [Act.put, List.setIfInBounds_toArray, List.set_cons_succ, List.set_cons_zero]
        · go_wp2_with fail
          exact ⟨rfl, Ext.refl _, by show (_ : Value) = _; (first | rfl | simp); try rfl⟩
        · have hb := he.block R1.out
          have q0 := blk_cell hb 0
          have q1 := blk_cell hb 1
          simp at q0 q1
          clear hb
          go_wp2_with fail
          exact ⟨rfl, Ext.refl _, HZ1.out.ext (HER.out.trans he)⟩
        · have k0 := hk
          have H0 := Lib.hid k0
          clear k0
          go_wp2_with fail
          refine (toImpl_z (17592186043904) (zz) _ _ (H0.out) (by omega)).mono ?_
          rintro e w2 ⟨he2, x, rfl, hx⟩
          have HX := Lib.hid hx
          clear hx
          go_wp2_with fail
          exact ⟨rfl, he2, HX.out⟩
        · have hb := he.block R2.out
          have q0 := blk_cell hb 0
          have q1 := blk_cell hb 1
          simp at q0 q1
          clear hb
          go_wp2_with fail
          exact ⟨rfl, Ext.refl _, HZ2.out.ext (HER.out.trans he)⟩
        · have k0 := hk
          have H0 := Lib.hid k0
          clear k0
          go_wp2_with fail
          refine (toImpl_z (17592186043904) (x) _ _ (H0.out) (by omega)).mono ?_
          rintro e w2 ⟨he2, x, rfl, hx⟩
          have HX := Lib.hid hx
          clear hx
          go_wp2_with fail
          exact ⟨rfl, he2, HX.out⟩
        · have hb := he.block R3.out
          have q0 := blk_cell hb 0
          have q1 := blk_cell hb 1
          simp at q0 q1
          clear hb
          go_wp2_with fail
          exact ⟨rfl, Ext.refl _, HZ3.out.ext (HER.out.trans he)⟩
        · have k0 := hk
          have H0 := Lib.hid k0
          clear k0
          go_wp2_with fail
          refine (toImpl_z (17592186043904) (y) _ _ (H0.out) (by omega)).mono ?_
          rintro e w2 ⟨he2, x, rfl, hx⟩
          have HX := Lib.hid hx
          clear hx
          go_wp2_with fail
          exact ⟨rfl, he2, HX.out⟩
        · obtain ⟨k0, k1, k2, k3⟩ := hk
          obtain rfl : u0 = .int .i64 k := k0
          have H1 := Lib.hid k1
          have H2 := Lib.hid k2
          have H3 := Lib.hid k3
          clear k1 k2 k3
          go_wp2_with fail
          refine (implSub_z k (17592186043904) zz x y _ _ _ _ (H1.out.z) (H2.out.z) (H3.out.z) (by omega)).mono ?_
          rintro e w2 ⟨he2, x, rfl, hx⟩
          have HX := Lib.hid hx
          clear hx
          go_wp2_with fail
          exact ⟨rfl, he2, HX.out⟩
        · have k0 := hk
          obtain ⟨m1, s1, m2, s2, m3, s3, rfl, t1, t2, t3⟩ := k0
          have hf := field_z m1 s1 m2 s2 m3 s3
          go_wp2_with fail
          exact ⟨rfl, Ext.refl _, t1⟩
        · have k0 := hk
          have H0 : Hid (IsC (17592186043905) (x - secZ k x y) u8 w1) := Lib.hid (by first | exact k0 | simpa using k0)
          clear k0
          go_wp2_with fail
          refine (fromImpl_z (17592186043905) (x - secZ k x y) _ _ (by first | exact H0.out | simpa using H0.out)).mono ?_
          rintro e w2 ⟨he2, x, rfl, hx⟩
          have HX := Lib.hid hx
          clear hx
          go_wp2_with fail
          exact ⟨rfl, he2, HX.out⟩
        · have hsz : N2 ≤ w1.heap.size := by have := he.size; omega
          go_wp2_with fail
          exact ⟨rfl, Ext.alloc _ _, _, rfl, heap_alloc_new _ _, hsz⟩
      case last =>
        rename_i K aK
        have AK := Lib.hid aK
        clear aK
        intro wA he u0 h0 u1 h1 u2 h2 u3 h3 u4 h4 u5 h5 u6 h6 u7 h7 u8 h8 u9 h9 u10 h10
        obtain ⟨p3, rfl, hp, hge⟩ := h10
        have hy : IsC 17592186043905 (x - secZ k x y) u9 wA := h9
        clear h0 h1 h2 h3 h4 h5 h6 h7 h8 h9
        have e1 := hy
        clear hy
        obtain ⟨np3, ap3, lp3, cp3, rfl⟩ := e1.form
        simp only [LastD, Act.put, List.setIfInBounds_toArray, List.set_cons_succ, List.set_cons_zero]
        have d0 := blk_cell hp 0
        have f0 := blk_free hp 0
        have d1 := blk_cell hp 1
        have f1 := blk_free hp 1
        simp at d0 d1
        have HP := Lib.hid hp
        have HE5 := Lib.hid he
        have HGE := Lib.hid hge
        have HY1 := Lib.hid e1
        clear hp he hge e1
        go_wp2_with fail
        obtain ⟨e0, e1, hu⟩ := set2 HP.out (.bool np3) (.slice ap3 lp3 cp3)
        have q9 := blk2_set1 (blk2_set0 HP.out (.bool np3)) (.slice ap3 lp3 cp3)
        change K _ ((wA.setCell ⟨p3, 0, none⟩ (.bool np3)).setCell ⟨p3, 1, none⟩ (.slice ap3 lp3 cp3))
        clear e0 e1
        have HES := Lib.hid (hu.ext (HER.out.trans HE5.out) (by intro i hi; subst hi; have := HGE.out; have := HSZ.out; omega))
        have hge9 := HGE.out
        have hsz9 := HSZ.out
        have q1 := hu.heap (HE5.out.block R1.out) (by omega)
        have q2 := hu.heap (HE5.out.block R2.out) (by omega)
        have q3 := hu.heap (HE5.out.block R3.out) (by omega)
        have q4 := hu.heap (HE5.out.block R4.out) (by have := HP4.out; omega)
        have q5 := hu.heap (HE5.out.block R5.out) (by have := HP5.out; omega)
        have HC := Lib.hid (HY1.out.upd HP.out (by decide) hu)
        replace HA0 := Lib.hid ((HA0.out.ext HE5.out).upd HP.out (by decide) hu)
        replace HA1 := Lib.hid ((HA1.out.ext HE5.out).upd HP.out (by decide) hu)
        replace HA2 := Lib.hid ((HA2.out.ext HE5.out).upd HP.out (by decide) hu)
        replace HB0 := Lib.hid ((HB0.out.ext HE5.out).upd HP.out (by decide) hu)
        replace HB1 := Lib.hid ((HB1.out.ext HE5.out).upd HP.out (by decide) hu)
        replace HB2 := Lib.hid ((HB2.out.ext HE5.out).upd HP.out (by decide) hu)
        have hlt9 : p3 < ((wA.setCell ⟨p3, 0, none⟩ (.bool np3)).setCell ⟨p3, 1, none⟩ (.slice ap3 lp3 cp3)).heap.size := (Array.getElem?_eq_some_iff.1 q9).1
        have hsq : N2 ≤ ((wA.setCell ⟨p3, 0, none⟩ (.bool np3)).setCell ⟨p3, 1, none⟩ (.slice ap3 lp3 cp3)).heap.size := Nat.le_trans (by have := HE5.out.size; omega) hu.size
        generalize (wA.setCell ⟨p3, 0, none⟩ (.bool np3)).setCell ⟨p3, 1, none⟩ (.slice ap3 lp3 cp3) = w_S at *
        generalize hnS : w_S.heap.size = N3 at *
        have S1 := Lib.hid q1
        have S2 := Lib.hid q2
        have S3 := Lib.hid q3
        have S4 := Lib.hid q4
        have S5 := Lib.hid q5
        replace HP4 := Lib.hid (Nat.lt_of_lt_of_le HP4.out hsq)
        replace HP5 := Lib.hid (Nat.lt_of_lt_of_le HP5.out hsq)
        have S6 := Lib.hid q9
        have HP6 := Lib.hid hlt9
        replace HSZ := Lib.hid (Nat.le_trans HSZ.out hsq)
        clear q9 q1 q2 q3 q4 q5 hu hge9 hsz9 hlt9 hsq HP HE5 HGE HY1 d0 f0 d1 f1
        refine AK.out _ _ ?_
        clear AK
        go_wp2_with fail

        refine wp_region_D preExt mixed [Is (.pointer (some ⟨p1, 0, none⟩)), IsC (17592186043905) (x + y), IsC (17592186043905) (x + y), IsZ (17592186043904) (x), IsZ (17592186043904) (y), IsC (17592186043905) ((x) + (y)), Is (.bool true), Is (.bool false), Is (.bool false), Is (.pointer (some ⟨p2, 0, none⟩)), IsC (17592186043905) (x - y), IsC (17592186043905) (x - y), IsZ (17592186043904) (x), IsZ (17592186043904) (y), IsC (17592186043905) ((x) - (y)), Is (.bool true), Is (.bool false), Is (.bool false), Is (.bool false), Is (.pointer (some ⟨p1, 2, none⟩)), IsC (17592186043905) (x), IsC (17592186043905) (x), IsZ (17592186043904) (x), Is (.bool true), Is (.bool false), Is (.bool false), Is (.bool false), Is (.pointer (some ⟨p1, 4, none⟩)), IsC (17592186043905) (y), IsC (17592186043905) (y), IsZ (17592186043904) (y), Is (.bool true), Is (.bool false), Is (.bool false), Is (.bool false), Is (.pointer (some ⟨p2, 2, none⟩)), IsC (17592186043905) (x), IsC (17592186043905) (x), IsZ (17592186043904) (x), Is (.bool true), Is (.bool false), Is (.bool false), Is (.bool false), Is (.pointer (some ⟨p2, 4, none⟩)), IsC (17592186043905) (y), IsC (17592186043905) (y), IsZ (17592186043904) (y), Is (.bool true), Is (.bool false)] (by kernel_rfl) ?mono rfl ?steps ?last
        case mono =>
          simp only [List.forall_mem_cons, List.not_mem_nil, false_implies, implies_true, and_true]
          refine ⟨?_, ?_, ?_, ?_, ?_, ?_, ?_, ?_, ?_, ?_, ?_, ?_, ?_, ?_, ?_, ?_, ?_, ?_, ?_, ?_, ?_, ?_, ?_, ?_, ?_, ?_, ?_, ?_, ?_, ?_, ?_, ?_, ?_, ?_, ?_, ?_, ?_, ?_, ?_, ?_, ?_, ?_, ?_, ?_, ?_, ?_, ?_, ?_, ?_⟩
          all_goals first | exact fun _ _ _ _ q => q | exact fun _ _ _ he q => q.ext he
        case steps =>
          refine ⟨?_, ?_, ?_, ?_, ?_, ?_, ?_, ?_, ?_, ?_, ?_, ?_, ?_, ?_, ?_, ?_, ?_, ?_, ?_, ?_, ?_, ?_, ?_, ?_, ?_, ?_, ?_, ?_, ?_, ?_, ?_, ?_, ?_, ?_, ?_, ?_, ?_, ?_, ?_, ?_, ?_, ?_, ?_, ?_, ?_, ?_, ?_, ?_, ?_, trivial⟩
          all_goals
            intro u0 u1 u2 u3 u4 u5 u6 u7 u8 u9 u10 u11 u12 u13 u14 u15 u16 u17 u18 u19 u20 u21 u22 u23 u24 u25 u26 u27 u28 u29 u30 u31 u32 u33 u34 u35 u36 u37 u38 u39 u40 u41 u42 u43 u44 u45 u46 u47 u48 u49 w1 he hk
            simp [KnownD, Oper.looksAt, Op.operands, Call.operands, List.findIdx?_cons, Act.put] at hk
            simp only [Act.put, List.setIfInBounds_toArray, List.set_cons_succ, List.set_cons_zero]
          · go_wp2_with fail
            exact ⟨rfl, Ext.refl _, rfl⟩
          · have k0 := hk
            obtain rfl : u0 = .pointer (some ⟨p1, 0, none⟩) := k0
            have hb := he.block S4.out
            have q0 := blk_cell hb 0
            have q1 := blk_cell hb 1
            have q2 := blk_cell hb 2
            have q3 := blk_cell hb 3
            have q4 := blk_cell hb 4
            have q5 := blk_cell hb 5
            simp at q0 q1 q2 q3 q4 q5
            clear hb
            go_wp2_with fail
            exact ⟨rfl, Ext.refl _, HA0.out.ext he⟩
          · have k0 := hk
            have H0 : Hid (IsC (17592186043905) (x + y) u1 w1) := Lib.hid (by first | exact k0 | simpa using k0)
            clear k0
            go_wp2_with fail
            refine (fromImpl_z (17592186043905) (x + y) _ _ (by first | exact H0.out | simpa using H0.out)).mono ?_
            rintro e w2 ⟨he2, x, rfl, hx⟩
            have HX := Lib.hid hx
            clear hx
            go_wp2_with fail
            exact ⟨rfl, he2, HX.out⟩
          · have hb := he.block S2.out
            have q0 := blk_cell hb 0
            have q1 := blk_cell hb 1
            simp at q0 q1
            clear hb
            go_wp2_with fail
            exact ⟨rfl, Ext.refl _, HZ2.out.ext (HES.out.trans he)⟩
          · have hb := he.block S3.out
            have q0 := blk_cell hb 0
            have q1 := blk_cell hb 1
            simp at q0 q1
            clear hb
            go_wp2_with fail
            exact ⟨rfl, Ext.refl _, HZ3.out.ext (HES.out.trans he)⟩
          · obtain ⟨k0, k1⟩ := hk
            have H0 := Lib.hid k0
            have H1 := Lib.hid k1
            clear k0 k1
            go_wp2_with fail
            refine (add_z (17592186043904) (x) (y) _ _ _ ((H0.out).mono (by omega)) ((H1.out).mono (by omega)) (by omega)).mono ?_
            rintro e w2 ⟨he2, x, rfl, hx⟩
            have HX := Lib.hid hx
            clear hx
            go_wp2_with fail
            exact ⟨rfl, he2, HX.out⟩
          · obtain ⟨k0, k1⟩ := hk
            have H0 : Hid (IsC (17592186043905) (x + y) u2 w1) := Lib.hid (by first | exact k0 | simpa using k0)
            have H1 : Hid (IsC (17592186043905) ((x) + (y)) u5 w1) := Lib.hid (by first | exact k1 | simpa using k1)
            clear k0 k1
            go_wp2_with fail
            refine (same_z (17592186043905) (17592186043905) (x + y) ((x) + (y)) _ _ _ (H0.out.z) (H1.out.z) (by omega) (by omega)).mono ?_
            rintro e w2 ⟨he2, x, rfl, hx⟩
            obtain rfl : x = .bool true := hx.trans (by simp)
            go_wp2_with fail
            exact ⟨rfl, he2, rfl⟩
          · have k0 := hk
            obtain rfl : u6 = .bool true := k0
            go_wp2_with fail
            exact ⟨rfl, Ext.refl _, by show (_ : Value) = _; (first | rfl | simp); try rfl⟩
          · have k0 := hk
            obtain rfl : u7 = .bool false := k0
            go_wp2_with fail
            exact ⟨rfl, Ext.refl _, by show (_ : Value) = _; (first | rfl | simp); try rfl⟩
          · have k0 := hk
            obtain rfl : u8 = .bool false := k0
            go_wp2_with fail
            exact ⟨rfl, Ext.refl _, rfl⟩
          · obtain ⟨k0, k1⟩ := hk
            obtain rfl : u9 = .pointer (some ⟨p2, 0, none⟩) := k0
            obtain rfl : u8 = .bool false := k1
            have hb := he.block S5.out
            have q0 := blk_cell hb 0
            have q1 := blk_cell hb 1
            have q2 := blk_cell hb 2
            have q3 := blk_cell hb 3
            have q4 := blk_cell hb 4
            have q5 := blk_cell hb 5
            simp at q0 q1 q2 q3 q4 q5
            clear hb
            go_wp2_with fail
            exact ⟨rfl, Ext.refl _, HB0.out.ext he⟩
          · obtain ⟨k0, k1⟩ := hk
            obtain rfl : u8 = .bool false := k1
            have H0 : Hid (IsC (17592186043905) (x - y) u10 w1) := Lib.hid (by first | exact k0 | simpa using k0)
            clear k0
            go_wp2_with fail
            refine (fromImpl_z (17592186043905) (x - y) _ _ (by first | exact H0.out | simpa using H0.out)).mono ?_
            rintro e w2 ⟨he2, x, rfl, hx⟩
            have HX := Lib.hid hx
            clear hx
            go_wp2_with fail
            exact ⟨rfl, he2, HX.out⟩
          · have k0 := hk
            obtain rfl : u8 = .bool false := k0
            have hb := he.block S2.out
            have q0 := blk_cell hb 0
            have q1 := blk_cell hb 1
            simp at q0 q1
            clear hb
            go_wp2_with fail
            exact ⟨rfl, Ext.refl _, HZ2.out.ext (HES.out.trans he)⟩
          · have k0 := hk
            obtain rfl : u8 = .bool false := k0
            have hb := he.block S3.out
            have q0 := blk_cell hb 0
            have q1 := blk_cell hb 1
            simp at q0 q1
            clear hb
            go_wp2_with fail
            exact ⟨rfl, Ext.refl _, HZ3.out.ext (HES.out.trans he)⟩
          · obtain ⟨k0, k1, k2⟩ := hk
            obtain rfl : u8 = .bool false := k2
            have H0 := Lib.hid k0
            have H1 := Lib.hid k1
            clear k0 k1
            go_wp2_with fail
            refine (sub_z (17592186043904) (x) (y) _ _ _ ((H0.out).mono (by omega)) ((H1.out).mono (by omega)) (by omega)).mono ?_
            rintro e w2 ⟨he2, x, rfl, hx⟩
            have HX := Lib.hid hx
            clear hx
            go_wp2_with fail
            exact ⟨rfl, he2, HX.out⟩
          · obtain ⟨k0, k1, k2⟩ := hk
            obtain rfl : u8 = .bool false := k2
            have H0 : Hid (IsC (17592186043905) (x - y) u11 w1) := Lib.hid (by first | exact k0 | simpa using k0)
            have H1 : Hid (IsC (17592186043905) ((x) - (y)) u14 w1) := Lib.hid (by first | exact k1 | simpa using k1)
            clear k0 k1
            go_wp2_with fail
            refine (same_z (17592186043905) (17592186043905) (x - y) ((x) - (y)) _ _ _ (H0.out.z) (H1.out.z) (by omega) (by omega)).mono ?_
            rintro e w2 ⟨he2, x, rfl, hx⟩
            obtain rfl : x = .bool true := hx.trans (by simp)
            go_wp2_with fail
            exact ⟨rfl, he2, rfl⟩
          · obtain ⟨k0, k1⟩ := hk
            obtain rfl : u15 = .bool true := k0
            obtain rfl : u8 = .bool false := k1
            go_wp2_with fail
            exact ⟨rfl, Ext.refl _, by show (_ : Value) = _; (first | rfl | simp); try rfl⟩
          · obtain ⟨k0, k1⟩ := hk
            obtain rfl : u8 = .bool false := k0
            obtain rfl : u16 = .bool false := k1
            go_wp2_with fail
            exact ⟨rfl, Ext.refl _, by show (_ : Value) = _; (first | rfl | simp); try rfl⟩
          · have k0 := hk
            obtain rfl : u17 = .bool false := k0
            go_wp2_with fail
            exact ⟨rfl, Ext.refl _, by show (_ : Value) = _; (first | rfl | simp); try rfl⟩
          · have k0 := hk
            obtain rfl : u18 = .bool false := k0
            go_wp2_with fail
            exact ⟨rfl, Ext.refl _, rfl⟩
          · obtain ⟨k0, k1⟩ := hk
            obtain rfl : u19 = .pointer (some ⟨p1, 2, none⟩) := k0
            obtain rfl : u18 = .bool false := k1
            have hb := he.block S4.out
            have q0 := blk_cell hb 0
            have q1 := blk_cell hb 1
            have q2 := blk_cell hb 2
            have q3 := blk_cell hb 3
            have q4 := blk_cell hb 4
            have q5 := blk_cell hb 5
            simp at q0 q1 q2 q3 q4 q5
            clear hb
            go_wp2_with fail
            exact ⟨rfl, Ext.refl _, HA1.out.ext he⟩
          · obtain ⟨k0, k1⟩ := hk
            obtain rfl : u18 = .bool false := k1
            have H0 := Lib.hid k0
            clear k0
            go_wp2_with fail
            refine (fromImpl_z (17592186043905) (x) _ _ (by first | exact H0.out | simpa using H0.out)).mono ?_
            rintro e w2 ⟨he2, x, rfl, hx⟩
            have HX := Lib.hid hx
            clear hx
            go_wp2_with fail
            exact ⟨rfl, he2, HX.out⟩
          · have k0 := hk
            obtain rfl : u18 = .bool false := k0
            have hb := he.block S2.out
            have q0 := blk_cell hb 0
            have q1 := blk_cell hb 1
            simp at q0 q1
            clear hb
            go_wp2_with fail
            exact ⟨rfl, Ext.refl _, HZ2.out.ext (HES.out.trans he)⟩
          · obtain ⟨k0, k1, k2⟩ := hk
            obtain rfl : u18 = .bool false := k2
            have H0 := Lib.hid k0
            have H1 := Lib.hid k1
            clear k0 k1
            go_wp2_with fail
            refine (same_z (17592186043905) (17592186043904) (x) (x) _ _ _ (H0.out.z) (H1.out) (by omega) (by omega)).mono ?_
            rintro e w2 ⟨he2, x, rfl, hx⟩
            obtain rfl : x = .bool true := hx.trans (by simp)
            go_wp2_with fail
            exact ⟨rfl, he2, rfl⟩
          · obtain ⟨k0, k1⟩ := hk
            obtain rfl : u23 = .bool true := k0
            obtain rfl : u18 = .bool false := k1
            go_wp2_with fail
            exact ⟨rfl, Ext.refl _, by show (_ : Value) = _; (first | rfl | simp); try rfl⟩
          · obtain ⟨k0, k1⟩ := hk
            obtain rfl : u18 = .bool false := k0
            obtain rfl : u24 = .bool false := k1
            go_wp2_with fail
            exact ⟨rfl, Ext.refl _, by show (_ : Value) = _; (first | rfl | simp); try rfl⟩
          · have k0 := hk
            obtain rfl : u25 = .bool false := k0
            go_wp2_with fail
            exact ⟨rfl, Ext.refl _, by show (_ : Value) = _; (first | rfl | simp); try rfl⟩
          · have k0 := hk
            obtain rfl : u26 = .bool false := k0
            go_wp2_with fail
            exact ⟨rfl, Ext.refl _, rfl⟩
          · obtain ⟨k0, k1⟩ := hk
            obtain rfl : u27 = .pointer (some ⟨p1, 4, none⟩) := k0
            obtain rfl : u26 = .bool false := k1
            have hb := he.block S4.out
            have q0 := blk_cell hb 0
            have q1 := blk_cell hb 1
            have q2 := blk_cell hb 2
            have q3 := blk_cell hb 3
            have q4 := blk_cell hb 4
            have q5 := blk_cell hb 5
            simp at q0 q1 q2 q3 q4 q5
            clear hb
            go_wp2_with fail
            exact ⟨rfl, Ext.refl _, HA2.out.ext he⟩
          · obtain ⟨k0, k1⟩ := hk
            obtain rfl : u26 = .bool false := k1
            have H0 := Lib.hid k0
            clear k0
            go_wp2_with fail
            refine (fromImpl_z (17592186043905) (y) _ _ (by first | exact H0.out | simpa using H0.out)).mono ?_
            rintro e w2 ⟨he2, x, rfl, hx⟩
            have HX := Lib.hid hx
            clear hx
            go_wp2_with fail
            exact ⟨rfl, he2, HX.out⟩
          · have k0 := hk
            obtain rfl : u26 = .bool false := k0
            have hb := he.block S3.out
            have q0 := blk_cell hb 0
            have q1 := blk_cell hb 1
            simp at q0 q1
            clear hb
            go_wp2_with fail
            exact ⟨rfl, Ext.refl _, HZ3.out.ext (HES.out.trans he)⟩
          · obtain ⟨k0, k1, k2⟩ := hk
            obtain rfl : u26 = .bool false := k2
            have H0 := Lib.hid k0
            have H1 := Lib.hid k1
            clear k0 k1
            go_wp2_with fail
            refine (same_z (17592186043905) (17592186043904) (y) (y) _ _ _ (H0.out.z) (H1.out) (by omega) (by omega)).mono ?_
            rintro e w2 ⟨he2, x, rfl, hx⟩
            obtain rfl : x = .bool true := hx.trans (by simp)
            go_wp2_with fail
            exact ⟨rfl, he2, rfl⟩
          · obtain ⟨k0, k1⟩ := hk
            obtain rfl : u31 = .bool true := k0
            obtain rfl : u26 = .bool false := k1
            go_wp2_with fail
            exact ⟨rfl, Ext.refl _, by show (_ : Value) = _; (first | rfl | simp); try rfl⟩
          · obtain ⟨k0, k1⟩ := hk
            obtain rfl : u26 = .bool false := k0
            obtain rfl : u32 = .bool false := k1
            go_wp2_with fail
            exact ⟨rfl, Ext.refl _, by show (_ : Value) = _; (first | rfl | simp); try rfl⟩
          · have k0 := hk
            obtain rfl : u33 = .bool false := k0
            go_wp2_with fail
            exact ⟨rfl, Ext.refl _, by show (_ : Value) = _; (first | rfl | simp); try rfl⟩
          · have k0 := hk
            obtain rfl : u34 = .bool false := k0
            go_wp2_with fail
            exact ⟨rfl, Ext.refl _, rfl⟩
          · obtain ⟨k0, k1⟩ := hk
            obtain rfl : u35 = .pointer (some ⟨p2, 2, none⟩) := k0
            obtain rfl : u34 = .bool false := k1
            have hb := he.block S5.out
            have q0 := blk_cell hb 0
            have q1 := blk_cell hb 1
            have q2 := blk_cell hb 2
            have q3 := blk_cell hb 3
            have q4 := blk_cell hb 4
            have q5 := blk_cell hb 5
            simp at q0 q1 q2 q3 q4 q5
            clear hb
            go_wp2_with fail
            exact ⟨rfl, Ext.refl _, HB1.out.ext he⟩
          · obtain ⟨k0, k1⟩ := hk
            obtain rfl : u34 = .bool false := k1
            have H0 := Lib.hid k0
            clear k0
            go_wp2_with fail
            refine (fromImpl_z (17592186043905) (x) _ _ (by first | exact H0.out | simpa using H0.out)).mono ?_
            rintro e w2 ⟨he2, x, rfl, hx⟩
            have HX := Lib.hid hx
            clear hx
            go_wp2_with fail
            exact ⟨rfl, he2, HX.out⟩
          · have k0 := hk
            obtain rfl : u34 = .bool false := k0
            have hb := he.block S2.out
            have q0 := blk_cell hb 0
            have q1 := blk_cell hb 1
            simp at q0 q1
            clear hb
            go_wp2_with fail
            exact ⟨rfl, Ext.refl _, HZ2.out.ext (HES.out.trans he)⟩
          · obtain ⟨k0, k1, k2⟩ := hk
            obtain rfl : u34 = .bool false := k2
            have H0 := Lib.hid k0
            have H1 := Lib.hid k1
            clear k0 k1
            go_wp2_with fail
            refine (same_z (17592186043905) (17592186043904) (x) (x) _ _ _ (H0.out.z) (H1.out) (by omega) (by omega)).mono ?_
            rintro e w2 ⟨he2, x, rfl, hx⟩
            obtain rfl : x = .bool true := hx.trans (by simp)
            go_wp2_with fail
            exact ⟨rfl, he2, rfl⟩
          · obtain ⟨k0, k1⟩ := hk
            obtain rfl : u39 = .bool true := k0
            obtain rfl : u34 = .bool false := k1
            go_wp2_with fail
            exact ⟨rfl, Ext.refl _, by show (_ : Value) = _; (first | rfl | simp); try rfl⟩
          · obtain ⟨k0, k1⟩ := hk
            obtain rfl : u34 = .bool false := k0
            obtain rfl : u40 = .bool false := k1
            go_wp2_with fail
            exact ⟨rfl, Ext.refl _, by show (_ : Value) = _; (first | rfl | simp); try rfl⟩
          · have k0 := hk
            obtain rfl : u41 = .bool false := k0
            go_wp2_with fail
            exact ⟨rfl, Ext.refl _, by show (_ : Value) = _; (first | rfl | simp); try rfl⟩
          · have k0 := hk
            obtain rfl : u42 = .bool false := k0
            go_wp2_with fail
            exact ⟨rfl, Ext.refl _, rfl⟩
          · obtain ⟨k0, k1⟩ := hk
            obtain rfl : u43 = .pointer (some ⟨p2, 4, none⟩) := k0
            obtain rfl : u42 = .bool false := k1
            have hb := he.block S5.out
            have q0 := blk_cell hb 0
            have q1 := blk_cell hb 1
            have q2 := blk_cell hb 2
            have q3 := blk_cell hb 3
            have q4 := blk_cell hb 4
            have q5 := blk_cell hb 5
            simp at q0 q1 q2 q3 q4 q5
            clear hb
            go_wp2_with fail
            exact ⟨rfl, Ext.refl _, HB2.out.ext he⟩
          · obtain ⟨k0, k1⟩ := hk
            obtain rfl : u42 = .bool false := k1
            have H0 := Lib.hid k0
            clear k0
            go_wp2_with fail
            refine (fromImpl_z (17592186043905) (y) _ _ (by first | exact H0.out | simpa using H0.out)).mono ?_
            rintro e w2 ⟨he2, x, rfl, hx⟩
            have HX := Lib.hid hx
            clear hx
            go_wp2_with fail
            exact ⟨rfl, he2, HX.out⟩
          · have k0 := hk
            obtain rfl : u42 = .bool false := k0
            have hb := he.block S3.out
            have q0 := blk_cell hb 0
            have q1 := blk_cell hb 1
            simp at q0 q1
            clear hb
            go_wp2_with fail
            exact ⟨rfl, Ext.refl _, HZ3.out.ext (HES.out.trans he)⟩
          · obtain ⟨k0, k1, k2⟩ := hk
            obtain rfl : u42 = .bool false := k2
            have H0 := Lib.hid k0
            have H1 := Lib.hid k1
            clear k0 k1
            go_wp2_with fail
            refine (same_z (17592186043905) (17592186043904) (y) (y) _ _ _ (H0.out.z) (H1.out) (by omega) (by omega)).mono ?_
            rintro e w2 ⟨he2, x, rfl, hx⟩
            obtain rfl : x = .bool true := hx.trans (by simp)
            go_wp2_with fail
            exact ⟨rfl, he2, rfl⟩
          · obtain ⟨k0, k1⟩ := hk
            obtain rfl : u47 = .bool true := k0
            obtain rfl : u42 = .bool false := k1
            go_wp2_with fail
            exact ⟨rfl, Ext.refl _, by show (_ : Value) = _; (first | rfl | simp); try rfl⟩
        case last =>
          rename_i K aK
          have AK := Lib.hid aK
          clear aK
          intro w8 he u0 h0 u1 h1 u2 h2 u3 h3 u4 h4 u5 h5 u6 h6 u7 h7 u8 h8 u9 h9 u10 h10 u11 h11 u12 h12 u13 h13 u14 h14 u15 h15 u16 h16 u17 h17 u18 h18 u19 h19 u20 h20 u21 h21 u22 h22 u23 h23 u24 h24 u25 h25 u26 h26 u27 h27 u28 h28 u29 h29 u30 h30 u31 h31 u32 h32 u33 h33 u34 h34 u35 h35 u36 h36 u37 h37 u38 h38 u39 h39 u40 h40 u41 h41 u42 h42 u43 h43 u44 h44 u45 h45 u46 h46 u47 h47 u48 h48
          obtain rfl : u42 = .bool false := h42
          obtain rfl : u48 = .bool false := h48
          clear h0 h1 h2 h3 h4 h5 h6 h7 h8 h9 h10 h11 h12 h13 h14 h15 h16 h17 h18 h19 h20 h21 h22 h23 h24 h25 h26 h27 h28 h29 h30 h31 h32 h33 h34 h35 h36 h37 h38 h39 h40 h41 h43 h44 h45 h46 h47
          simp only [LastD, Act.put, List.setIfInBounds_toArray, List.set_cons_succ, List.set_cons_zero]
          have HE8 := Lib.hid (HES.out.trans he)
          have T1 := Lib.hid (he.block S1.out)
          have T2 := Lib.hid (he.block S2.out)
          have T3 := Lib.hid (he.block S3.out)
          have T6 := Lib.hid (he.block S6.out)
          have HC8 := Lib.hid (HC.out.ext he)
          clear he
          go_wp2_with fail
          refine AK.out _ _ ?_
          clear AK
          have d0 := blk_cell T6.out 0
          have d1 := blk_cell T6.out 1
          simp at d0 d1
          go_wp2_with fail
          refine (sign_z 17592186043905 (x - secZ k x y) _ _ HC8.out.z (by omega)).mono ?_
          rintro e w9 ⟨he, y9, rfl, hy⟩
          obtain rfl : y9 = .int .i64 0 := hy.trans (by rw [HSEC.out]; simp [sgnZ])
          have HE9 := Lib.hid (HE8.out.trans he)
          clear he hy
          go_wp2_with fail
          go_ret
          exact ⟨HE9.out, rfl⟩





end Go.Proofs.Ytacmojhladdalaa

