/- FnSignedParts (printed by lawgen.py). -/
import Derived.Test.YtacmojhladdalaaAddZ
import Derived.Test.YtacmojhladdalaaHelpers
import Derived.Test.YtacmojhladdalaaCmp3
set_option linter.unusedSimpArgs false
set_option linter.unusedVariables false
namespace Go.Proofs.Ytacmojhladdalaa
open Go.RowKit

theorem sgn_mul_ge (a b : Int) (h : (0 ≤ a ∧ 0 ≤ b) ∨ (a ≤ 0 ∧ b ≤ 0)) : 0 ≤ sgnZ a * sgnZ b := by
  rcases sgnZ_cases a with ⟨h1, h2, h3⟩ | ⟨h1, h3⟩ | ⟨h1, h2, h3⟩ <;> rcases sgnZ_cases b with ⟨g1, g2, g3⟩ | ⟨g1, g3⟩ | ⟨g1, g2, g3⟩ <;> rw [h3, g3] <;> first | decide | omega

theorem sgn_mul_lt (a b : Int) (h : (0 < a ∧ b < 0) ∨ (a < 0 ∧ 0 < b)) : sgnZ a * sgnZ b = -1 := by
  rcases sgnZ_cases a with ⟨h1, h2, h3⟩ | ⟨h1, h3⟩ | ⟨h1, h2, h3⟩ <;> rcases sgnZ_cases b with ⟨g1, g2, g3⟩ | ⟨g1, g3⟩ | ⟨g1, g2, g3⟩ <;> rw [h3, g3] <;> first | decide | omega

theorem sgn_abs (a b : Int) : -1 ≤ sgnZ a * sgnZ b ∧ sgnZ a * sgnZ b ≤ 1 := by
  rcases sgnZ_cases a with ⟨h1, h2, h3⟩ | ⟨h1, h3⟩ | ⟨h1, h2, h3⟩ <;> rcases sgnZ_cases b with ⟨g1, g2, g3⟩ | ⟨g1, g3⟩ | ⟨g1, g2, g3⟩ <;> rw [h3, g3] <;> decide

def At3 (n0 : Nat) (v : Value) (w : World) : Prop := ∃ p, v = .pointer (some ⟨p, 0, none⟩) ∧ w.heap[p]? = some (.cells #[.bool false, .slice none 0 0] 24 (0, 0)) ∧ n0 ≤ p

theorem At3.ext {n0 : Nat} {v : Value} {w w' : World} (h : At3 n0 v w) (he : Ext w w') : At3 n0 v w' := by
  obtain ⟨p, h1, h2, h3⟩ := h
  exact ⟨p, h1, he.block h2, h3⟩

set_option maxRecDepth 10000 in
set_option maxHeartbeats 2000000 in
theorem fnSignedParts_y  (n0 : Bool) (v0 : Value) (ws0 : List Nat) (n1 : Bool) (v1 : Value) (ws1 : List Nat) (w : World) (hr0 : Rd .u64 w v0 ws0) (hl0 : ws0.length ≤ 17592186043904) (hr1 : Rd .u64 w v1 ws1) (hl1 : ws1.length ≤ 17592186043904) (hc : (0 ≤ (ival n0 ws0) ∧ 0 ≤ (ival n1 ws1)) ∨ ((ival n0 ws0) ≤ 0 ∧ (ival n1 ws1) ≤ 0)) :
    Calls Try.prog 13 #[.agg #[.bool n0, v0], .agg #[.bool n1, v1]] w (ValR (.bool true) w) := by
  obtain ⟨a0, c0, rfl⟩ := hr0.form
  have hz0 : IsZ 17592186043904 (ival n0 ws0) (.agg #[.bool n0, .slice a0 ws0.length c0]) w := ⟨n0, _, ws0, rfl, hr0, hl0, rfl⟩
  generalize hg0 : ival n0 ws0 = za at hz0
  have HZ0 := Lib.hid hz0
  have HG0 := Lib.hid hg0
  clear hz0 hg0 hr0
  obtain ⟨a1, c1, rfl⟩ := hr1.form
  have hz1 : IsZ 17592186043904 (ival n1 ws1) (.agg #[.bool n1, .slice a1 ws1.length c1]) w := ⟨n1, _, ws1, rfl, hr1, hl1, rfl⟩
  generalize hg1 : ival n1 ws1 = zb at hz1
  have HZ1 := Lib.hid hz1
  have HG1 := Lib.hid hg1
  clear hz1 hg1 hr1
  have HC := Lib.hid (show (0 ≤ za ∧ 0 ≤ zb) ∨ (za ≤ 0 ∧ zb ≤ 0) by rw [← HG0.out, ← HG1.out]; exact hc)
  clear hc
  go_enter Try.func13, Try.ntmps13
  go_wp2_with fail
  have g0 := (Ext.alloc (w.alloc (.cells #[.bool n0, .slice a0 ws0.length c0] 24)) (.cells #[.bool n1, .slice a1 ws1.length c1] 24)).block (heap_alloc_new w (.cells #[.bool n0, .slice a0 ws0.length c0] 24))
  have g1 := heap_second w (.cells #[.bool n0, .slice a0 ws0.length c0] 24) (.cells #[.bool n1, .slice a1 ws1.length c1] 24)
  have hE0 : Ext w ((w.alloc (.cells #[.bool n0, .slice a0 ws0.length c0] 24)).alloc (.cells #[.bool n1, .slice a1 ws1.length c1] 24)) := (Ext.alloc _ _).trans (Ext.alloc _ _)
  have hsz3 : ((w.alloc (.cells #[.bool n0, .slice a0 ws0.length c0] 24)).alloc (.cells #[.bool n1, .slice a1 ws1.length c1] 24)).heap.size = w.heap.size + 1 + 1 := by simp
  generalize ((w.alloc (.cells #[.bool n0, .slice a0 ws0.length c0] 24)).alloc (.cells #[.bool n1, .slice a1 ws1.length c1] 24)) = w4 at *
  generalize hn0 : w4.heap.size = N0 at *
  have HE0 := Lib.hid hE0
  have G0 := Lib.hid g0
  have G1 := Lib.hid g1
  have HSZ := Lib.hid hsz3
  clear g0 g1 hE0 hsz3
  refine wp_region_D preExt mixed [IsZ (17592186043904) (za), IsC (17592186043904) (((za).natAbs : Int)), IsZ (17592186043904) (zb), IsC (17592186043904) (((zb).natAbs : Int)), IsC (17592186043905) ((((za).natAbs : Int)) + (((zb).natAbs : Int))), At3 N0] (by kernel_rfl) ?mono rfl ?steps ?last
  case mono =>
    simp only [List.forall_mem_cons, List.not_mem_nil, false_implies, implies_true, and_true]
    refine ⟨?_, ?_, ?_, ?_, ?_, ?_⟩
    all_goals first | exact fun _ _ _ _ q => q | exact fun _ _ _ he q => q.ext he
  case steps =>
    refine ⟨?_, ?_, ?_, ?_, ?_, ?_, trivial⟩
    all_goals
      intro u0 u1 u2 u3 u4 u5 u6 w1 he hk
      simp [KnownD, Oper.looksAt, Op.operands, Call.operands, List.findIdx?_cons, Act.put] at hk
      simp only [Act.put, List.setIfInBounds_toArray, List.set_cons_succ, List.set_cons_zero]
    · have hb := he.block G0.out
      have q0 := blk_cell hb 0
      have q1 := blk_cell hb 1
      simp at q0 q1
      clear hb
      go_wp2_with fail
      exact ⟨rfl, Ext.refl _, HZ0.out.ext (HE0.out.trans he)⟩
    · have k0 := hk
      have H0 := Lib.hid k0
      clear k0
      go_wp2_with fail
      refine (abs_z (17592186043904) (za) _ _ (H0.out) (by omega)).mono ?_
      rintro e w2 ⟨he2, x, rfl, hx⟩
      have HX := Lib.hid hx
      clear hx
      go_wp2_with fail
      exact ⟨rfl, he2, HX.out⟩
    · have hb := he.block G1.out
      have q0 := blk_cell hb 0
      have q1 := blk_cell hb 1
      simp at q0 q1
      clear hb
      go_wp2_with fail
      exact ⟨rfl, Ext.refl _, HZ1.out.ext (HE0.out.trans he)⟩
    · have k0 := hk
      have H0 := Lib.hid k0
      clear k0
      go_wp2_with fail
      refine (abs_z (17592186043904) (zb) _ _ (H0.out) (by omega)).mono ?_
      rintro e w2 ⟨he2, x, rfl, hx⟩
      have HX := Lib.hid hx
      clear hx
      go_wp2_with fail
      exact ⟨rfl, he2, HX.out⟩
    · obtain ⟨k0, k1⟩ := hk
      have H0 : Hid (IsC (17592186043904) (((za).natAbs : Int)) u1 w1) := Lib.hid (by first | exact k0 | simpa using k0)
      have H1 : Hid (IsC (17592186043904) (((zb).natAbs : Int)) u3 w1) := Lib.hid (by first | exact k1 | simpa using k1)
      clear k0 k1
      go_wp2_with fail
      refine (add_z (17592186043904) (((za).natAbs : Int)) (((zb).natAbs : Int)) _ _ _ ((H0.out.z).mono (by omega)) ((H1.out.z).mono (by omega)) (by omega)).mono ?_
      rintro e w2 ⟨he2, x, rfl, hx⟩
      have HX := Lib.hid hx
      clear hx
      go_wp2_with fail
      exact ⟨rfl, he2, HX.out⟩
    · have hsz : N0 ≤ w1.heap.size := by have := he.size; omega
      go_wp2_with fail
      exact ⟨rfl, Ext.alloc _ _, _, rfl, heap_alloc_new _ _, hsz⟩
  case last =>
    rename_i K aK
    have AK := Lib.hid aK
    clear aK
    intro w5 he u0 h0 u1 h1 u2 h2 u3 h3 u4 h4 u5 h5
    obtain ⟨p, rfl, hp, hge⟩ := h5
    have hy : IsC 17592186043905 (((za).natAbs : Int) + ((zb).natAbs : Int)) u4 w5 := h4
    clear h0 h1 h2 h3 h4
    obtain ⟨m, aa, ll, cc, rfl⟩ := hy.form
    simp only [LastD, Act.put, List.setIfInBounds_toArray, List.set_cons_succ, List.set_cons_zero]
    have d0 := blk_cell hp 0
    have d1 := blk_cell hp 1
    have f0 := blk_free hp 0
    have f1 := blk_free hp 1
    simp at d0 d1
    have HP := Lib.hid hp
    have HY := Lib.hid hy
    have HE5 := Lib.hid he
    have HGE := Lib.hid hge
    clear hp hy he hge
    go_wp2_with fail
    obtain ⟨e0, e1, hu⟩ := set2 HP.out (.bool m) (.slice aa ll cc)
    have q9 := blk2_set1 (blk2_set0 HP.out (.bool m)) (.slice aa ll cc)
    change K _ ((w5.setCell ⟨p, 0, none⟩ (.bool m)).setCell ⟨p, 1, none⟩ (.slice aa ll cc))
    have HV7 := Lib.hid (HY.out.upd HP.out (by decide) hu)
    have HE7 := Lib.hid (hu.ext (HE0.out.trans HE5.out) (by intro i hi; subst hi; have := HGE.out; have := HSZ.out; omega))
    have q0 := hu.heap (HE5.out.block G0.out) (by have := HGE.out; have := HSZ.out; omega)
    have q1 := hu.heap (HE5.out.block G1.out) (by have := HGE.out; have := HSZ.out; omega)
    generalize ((w5.setCell ⟨p, 0, none⟩ (.bool m)).setCell ⟨p, 1, none⟩ (.slice aa ll cc)) = w7 at *
    have Q0 := Lib.hid q0
    have Q1 := Lib.hid q1
    have Q9 := Lib.hid q9
    clear q0 q1 q9 e0 e1 hu d0 d1 f0 f1 HP HY HE5 HE0 G0 G1
    refine AK.out _ _ ?_
    clear AK
    go_wp2_with fail

    refine wp_region_D preExt mixed [IsC (17592186043905) (((za).natAbs : Int) + ((zb).natAbs : Int)), IsZ (17592186043904) (zb), IsC (17592186043904) (((zb).natAbs : Int)), IsC (17592186043906) ((((za).natAbs : Int) + ((zb).natAbs : Int)) - (((zb).natAbs : Int))), IsZ (17592186043904) (za), IsW (17592186043904) (za), IsC (17592186043904) (((za).natAbs : Int)), IsW (17592186043904) (((za).natAbs : Int)), Is (.bool true)] (by kernel_rfl) ?mono rfl ?steps ?last
    case mono =>
      simp only [List.forall_mem_cons, List.not_mem_nil, false_implies, implies_true, and_true]
      refine ⟨?_, ?_, ?_, ?_, ?_, ?_, ?_, ?_, ?_⟩
      all_goals first | exact fun _ _ _ _ q => q | exact fun _ _ _ he q => q.ext he
    case steps =>
      refine ⟨?_, ?_, ?_, ?_, ?_, ?_, ?_, ?_, ?_, trivial⟩
      all_goals
        intro u0 u1 u2 u3 u4 u5 u6 u7 u8 u9 w1 he hk
        simp [KnownD, Oper.looksAt, Op.operands, Call.operands, List.findIdx?_cons, Act.put] at hk
        simp only [Act.put, List.setIfInBounds_toArray, List.set_cons_succ, List.set_cons_zero]
      · have hb := he.block Q9.out
        have q0 := blk_cell hb 0
        have q1 := blk_cell hb 1
        simp at q0 q1
        clear hb
        go_wp2_with fail
        exact ⟨rfl, Ext.refl _, HV7.out.ext he⟩
      · have hb := he.block Q1.out
        have q0 := blk_cell hb 0
        have q1 := blk_cell hb 1
        simp at q0 q1
        clear hb
        go_wp2_with fail
        exact ⟨rfl, Ext.refl _, HZ1.out.ext (HE7.out.trans he)⟩
      · have k0 := hk
        have H0 := Lib.hid k0
        clear k0
        go_wp2_with fail
        refine (abs_z (17592186043904) (zb) _ _ (H0.out) (by omega)).mono ?_
        rintro e w2 ⟨he2, x, rfl, hx⟩
        have HX := Lib.hid hx
        clear hx
        go_wp2_with fail
        exact ⟨rfl, he2, HX.out⟩
      · obtain ⟨k0, k1⟩ := hk
        have H0 : Hid (IsC (17592186043905) (((za).natAbs : Int) + ((zb).natAbs : Int)) u0 w1) := Lib.hid (by first | exact k0 | simpa using k0)
        have H1 : Hid (IsC (17592186043904) (((zb).natAbs : Int)) u2 w1) := Lib.hid (by first | exact k1 | simpa using k1)
        clear k0 k1
        go_wp2_with fail
        refine (sub_z (17592186043905) (((za).natAbs : Int) + ((zb).natAbs : Int)) (((zb).natAbs : Int)) _ _ _ ((H0.out.z).mono (by omega)) ((H1.out.z).mono (by omega)) (by omega)).mono ?_
        rintro e w2 ⟨he2, x, rfl, hx⟩
        have HX := Lib.hid hx
        clear hx
        go_wp2_with fail
        exact ⟨rfl, he2, HX.out⟩
      · have hb := he.block Q0.out
        have q0 := blk_cell hb 0
        have q1 := blk_cell hb 1
        simp at q0 q1
        clear hb
        go_wp2_with fail
        exact ⟨rfl, Ext.refl _, HZ0.out.ext (HE7.out.trans he)⟩
      · have k0 := hk
        have H0 := Lib.hid k0
        clear k0
        go_wp2_with fail
        refine (toSpec_z (17592186043904) (za) _ _ (H0.out) (by omega)).mono ?_
        rintro e w2 ⟨he2, x, rfl, hx⟩
        have HX := Lib.hid hx
        clear hx
        go_wp2_with fail
        exact ⟨rfl, he2, HX.out⟩
      · have k0 := hk
        have H0 := Lib.hid k0
        clear k0
        go_wp2_with fail
        refine (specAbs_z (17592186043904) (za) _ _ (H0.out.z) (by omega)).mono ?_
        rintro e w2 ⟨he2, x, rfl, hx⟩
        have HX := Lib.hid hx
        clear hx
        go_wp2_with fail
        exact ⟨rfl, he2, HX.out⟩
      · have k0 := hk
        have H0 : Hid (IsC (17592186043904) (((za).natAbs : Int)) u6 w1) := Lib.hid (by first | exact k0 | simpa using k0)
        clear k0
        go_wp2_with fail
        refine (fromSpec_z (17592186043904) (((za).natAbs : Int)) _ _ (H0.out.w)).mono ?_
        rintro e w2 ⟨he2, x, rfl, hx⟩
        have HX := Lib.hid hx
        clear hx
        go_wp2_with fail
        exact ⟨rfl, he2, HX.out⟩
      · obtain ⟨k0, k1⟩ := hk
        have H0 : Hid (IsC (17592186043906) ((((za).natAbs : Int) + ((zb).natAbs : Int)) - (((zb).natAbs : Int))) u3 w1) := Lib.hid (by first | exact k0 | simpa using k0)
        have H1 : Hid (IsW (17592186043904) (((za).natAbs : Int)) u7 w1) := Lib.hid (by first | exact k1 | simpa using k1)
        clear k0 k1
        go_wp2_with fail
        refine (same_z (17592186043906) (17592186043904) ((((za).natAbs : Int) + ((zb).natAbs : Int)) - (((zb).natAbs : Int))) (((za).natAbs : Int)) _ _ _ (H0.out.z) (H1.out.z) (by omega) (by omega)).mono ?_
        rintro e w2 ⟨he2, x, rfl, hx⟩
        obtain rfl : x = .bool true := hx.trans (by simp; try omega)
        go_wp2_with fail
        exact ⟨rfl, he2, rfl⟩
    case last =>
      rename_i K aK
      have AK := Lib.hid aK
      clear aK
      intro w8 he u0 h0 u1 h1 u2 h2 u3 h3 u4 h4 u5 h5 u6 h6 u7 h7 u8 h8
      obtain rfl : u8 = .bool true := h8
      clear h0 h1 h2 h3 h4 h5 h6 h7
      simp only [LastD, Act.put, List.setIfInBounds_toArray, List.set_cons_succ, List.set_cons_zero]
      have HE8 := Lib.hid (HE7.out.trans he)
      have HV8 := Lib.hid (HV7.out.ext he)
      have S0 := Lib.hid (he.block Q0.out)
      have S1 := Lib.hid (he.block Q1.out)
      have S9 := Lib.hid (he.block Q9.out)
      clear he
      go_wp2_with fail
      refine AK.out _ _ ?_
      clear AK
      go_wp2_with fail

      refine wp_region_D preExt mixed [IsZ (17592186043904) (za), Is (.int .i64 (sgnZ (za))), IsZ (17592186043904) (zb), Is (.int .i64 (sgnZ (zb))), Is (.int .i64 (sgnZ za * sgnZ zb))] (by kernel_rfl) ?mono rfl ?steps ?last
      case mono =>
        simp only [List.forall_mem_cons, List.not_mem_nil, false_implies, implies_true, and_true]
        refine ⟨?_, ?_, ?_, ?_, ?_⟩
        all_goals first | exact fun _ _ _ _ q => q | exact fun _ _ _ he q => q.ext he
      case steps =>
        refine ⟨?_, ?_, ?_, ?_, ?_, trivial⟩
        all_goals
          intro u0 u1 u2 u3 u4 u5 w1 he hk
          simp [KnownD, Oper.looksAt, Op.operands, Call.operands, List.findIdx?_cons, Act.put] at hk
          simp only [Act.put, List.setIfInBounds_toArray, List.set_cons_succ, List.set_cons_zero]
        · have hb := he.block S0.out
          have q0 := blk_cell hb 0
          have q1 := blk_cell hb 1
          simp at q0 q1
          clear hb
          go_wp2_with fail
          exact ⟨rfl, Ext.refl _, HZ0.out.ext (HE8.out.trans he)⟩
        · have k0 := hk
          have H0 := Lib.hid k0
          clear k0
          go_wp2_with fail
          refine (signOf_z (17592186043904) (za) _ _ (H0.out) (by omega)).mono ?_
          rintro e w2 ⟨he2, x, rfl, hx⟩
          obtain rfl : x = .int .i64 (sgnZ (za)) := hx
          go_wp2_with fail
          exact ⟨rfl, he2, rfl⟩
        · have hb := he.block S1.out
          have q0 := blk_cell hb 0
          have q1 := blk_cell hb 1
          simp at q0 q1
          clear hb
          go_wp2_with fail
          exact ⟨rfl, Ext.refl _, HZ1.out.ext (HE8.out.trans he)⟩
        · have k0 := hk
          have H0 := Lib.hid k0
          clear k0
          go_wp2_with fail
          refine (signOf_z (17592186043904) (zb) _ _ (H0.out) (by omega)).mono ?_
          rintro e w2 ⟨he2, x, rfl, hx⟩
          obtain rfl : x = .int .i64 (sgnZ (zb)) := hx
          go_wp2_with fail
          exact ⟨rfl, he2, rfl⟩
        · obtain ⟨k0, k1⟩ := hk
          obtain rfl : u1 = .int .i64 (sgnZ (za)) := k0
          obtain rfl : u3 = .int .i64 (sgnZ (zb)) := k1
          go_wp2_with fail
          exact ⟨rfl, Ext.refl _, by show (_ : Value) = _; (have := sgn_abs za zb; simp [wrap64]; omega); try rfl⟩
      case last =>
        rename_i K aK
        have AK := Lib.hid aK
        clear aK
        intro w9 he u0 h0 u1 h1 u2 h2 u3 h3 u4 h4
        obtain rfl : u4 = .int .i64 (sgnZ za * sgnZ zb) := h4
        clear h0 h1 h2 h3
        simp only [LastD, Act.put, List.setIfInBounds_toArray, List.set_cons_succ, List.set_cons_zero]
        have HE9 := Lib.hid (HE8.out.trans he)
        have HV9 := Lib.hid (HV8.out.ext he)
        have T0 := Lib.hid (he.block S0.out)
        have T1 := Lib.hid (he.block S1.out)
        have T9 := Lib.hid (he.block S9.out)
        clear he
        have hsg := sgn_mul_ge za zb HC.out
        have hsg2 : decide (0 ≤ sgnZ za * sgnZ zb) = true := by simp; omega
        go_wp2_with fail
        clear hsg hsg2
        refine AK.out _ _ ?_
        clear AK
        go_wp2_with fail

        refine wp_region_D preExt mixed [IsC (17592186043905) (((za).natAbs : Int) + ((zb).natAbs : Int)), IsZ (17592186043904) (za), IsZ (17592186043904) (zb), IsC (17592186043905) ((za) + (zb)), IsC (17592186043905) ((((za) + (zb)).natAbs : Int)), Is (.bool true)] (by kernel_rfl) ?mono rfl ?steps ?last
        case mono =>
          simp only [List.forall_mem_cons, List.not_mem_nil, false_implies, implies_true, and_true]
          refine ⟨?_, ?_, ?_, ?_, ?_, ?_⟩
          all_goals first | exact fun _ _ _ _ q => q | exact fun _ _ _ he q => q.ext he
        case steps =>
          refine ⟨?_, ?_, ?_, ?_, ?_, ?_, trivial⟩
          all_goals
            intro u0 u1 u2 u3 u4 u5 u6 w1 he hk
            simp [KnownD, Oper.looksAt, Op.operands, Call.operands, List.findIdx?_cons, Act.put] at hk
            simp only [Act.put, List.setIfInBounds_toArray, List.set_cons_succ, List.set_cons_zero]
          · have hb := he.block T9.out
            have q0 := blk_cell hb 0
            have q1 := blk_cell hb 1
            simp at q0 q1
            clear hb
            go_wp2_with fail
            exact ⟨rfl, Ext.refl _, HV9.out.ext he⟩
          · have hb := he.block T0.out
            have q0 := blk_cell hb 0
            have q1 := blk_cell hb 1
            simp at q0 q1
            clear hb
            go_wp2_with fail
            exact ⟨rfl, Ext.refl _, HZ0.out.ext (HE9.out.trans he)⟩
          · have hb := he.block T1.out
            have q0 := blk_cell hb 0
            have q1 := blk_cell hb 1
            simp at q0 q1
            clear hb
            go_wp2_with fail
            exact ⟨rfl, Ext.refl _, HZ1.out.ext (HE9.out.trans he)⟩
          · obtain ⟨k0, k1⟩ := hk
            have H0 := Lib.hid k0
            have H1 := Lib.hid k1
            clear k0 k1
            go_wp2_with fail
            refine (add_z (17592186043904) (za) (zb) _ _ _ ((H0.out).mono (by omega)) ((H1.out).mono (by omega)) (by omega)).mono ?_
            rintro e w2 ⟨he2, x, rfl, hx⟩
            have HX := Lib.hid hx
            clear hx
            go_wp2_with fail
            exact ⟨rfl, he2, HX.out⟩
          · have k0 := hk
            have H0 : Hid (IsC (17592186043905) ((za) + (zb)) u3 w1) := Lib.hid (by first | exact k0 | simpa using k0)
            clear k0
            go_wp2_with fail
            refine (abs_z (17592186043905) ((za) + (zb)) _ _ (H0.out.z) (by omega)).mono ?_
            rintro e w2 ⟨he2, x, rfl, hx⟩
            have HX := Lib.hid hx
            clear hx
            go_wp2_with fail
            exact ⟨rfl, he2, HX.out⟩
          · obtain ⟨k0, k1⟩ := hk
            have H0 : Hid (IsC (17592186043905) (((za).natAbs : Int) + ((zb).natAbs : Int)) u0 w1) := Lib.hid (by first | exact k0 | simpa using k0)
            have H1 : Hid (IsC (17592186043905) ((((za) + (zb)).natAbs : Int)) u4 w1) := Lib.hid (by first | exact k1 | simpa using k1)
            clear k0 k1
            go_wp2_with fail
            refine (same_z (17592186043905) (17592186043905) (((za).natAbs : Int) + ((zb).natAbs : Int)) ((((za) + (zb)).natAbs : Int)) _ _ _ (H0.out.z) (H1.out.z) (by omega) (by omega)).mono ?_
            rintro e w2 ⟨he2, x, rfl, hx⟩
            obtain rfl : x = .bool true := hx.trans (by have := HC.out; simp; omega)
            go_wp2_with fail
            exact ⟨rfl, he2, rfl⟩
        case last =>
          intro w1 he u0 h0 u1 h1 u2 h2 u3 h3 u4 h4 u5 h5
          obtain rfl : u5 = .bool true := h5
          clear h0 h1 h2 h3 h4
          simp only [LastD, Act.put, List.setIfInBounds_toArray, List.set_cons_succ, List.set_cons_zero]
          have HE := Lib.hid ((HE9.out).trans he)
          clear he
          go_wp2_with fail
          go_ret
          exact ⟨HE.out, rfl⟩







set_option maxRecDepth 10000 in
set_option maxHeartbeats 2000000 in
theorem fnSignedParts_n  (n0 : Bool) (v0 : Value) (ws0 : List Nat) (n1 : Bool) (v1 : Value) (ws1 : List Nat) (w : World) (hr0 : Rd .u64 w v0 ws0) (hl0 : ws0.length ≤ 17592186043904) (hr1 : Rd .u64 w v1 ws1) (hl1 : ws1.length ≤ 17592186043904) (hc : (0 < (ival n0 ws0) ∧ (ival n1 ws1) < 0) ∨ ((ival n0 ws0) < 0 ∧ 0 < (ival n1 ws1))) :
    Calls Try.prog 13 #[.agg #[.bool n0, v0], .agg #[.bool n1, v1]] w (ValR (.bool true) w) := by
  obtain ⟨a0, c0, rfl⟩ := hr0.form
  have hz0 : IsZ 17592186043904 (ival n0 ws0) (.agg #[.bool n0, .slice a0 ws0.length c0]) w := ⟨n0, _, ws0, rfl, hr0, hl0, rfl⟩
  generalize hg0 : ival n0 ws0 = za at hz0
  have HZ0 := Lib.hid hz0
  have HG0 := Lib.hid hg0
  clear hz0 hg0 hr0
  obtain ⟨a1, c1, rfl⟩ := hr1.form
  have hz1 : IsZ 17592186043904 (ival n1 ws1) (.agg #[.bool n1, .slice a1 ws1.length c1]) w := ⟨n1, _, ws1, rfl, hr1, hl1, rfl⟩
  generalize hg1 : ival n1 ws1 = zb at hz1
  have HZ1 := Lib.hid hz1
  have HG1 := Lib.hid hg1
  clear hz1 hg1 hr1
  have HC := Lib.hid (show (0 < za ∧ zb < 0) ∨ (za < 0 ∧ 0 < zb) by rw [← HG0.out, ← HG1.out]; exact hc)
  clear hc
  go_enter Try.func13, Try.ntmps13
  go_wp2_with fail
  have g0 := (Ext.alloc (w.alloc (.cells #[.bool n0, .slice a0 ws0.length c0] 24)) (.cells #[.bool n1, .slice a1 ws1.length c1] 24)).block (heap_alloc_new w (.cells #[.bool n0, .slice a0 ws0.length c0] 24))
  have g1 := heap_second w (.cells #[.bool n0, .slice a0 ws0.length c0] 24) (.cells #[.bool n1, .slice a1 ws1.length c1] 24)
  have hE0 : Ext w ((w.alloc (.cells #[.bool n0, .slice a0 ws0.length c0] 24)).alloc (.cells #[.bool n1, .slice a1 ws1.length c1] 24)) := (Ext.alloc _ _).trans (Ext.alloc _ _)
  have hsz3 : ((w.alloc (.cells #[.bool n0, .slice a0 ws0.length c0] 24)).alloc (.cells #[.bool n1, .slice a1 ws1.length c1] 24)).heap.size = w.heap.size + 1 + 1 := by simp
  generalize ((w.alloc (.cells #[.bool n0, .slice a0 ws0.length c0] 24)).alloc (.cells #[.bool n1, .slice a1 ws1.length c1] 24)) = w4 at *
  generalize hn0 : w4.heap.size = N0 at *
  have HE0 := Lib.hid hE0
  have G0 := Lib.hid g0
  have G1 := Lib.hid g1
  have HSZ := Lib.hid hsz3
  clear g0 g1 hE0 hsz3
  refine wp_region_D preExt mixed [IsZ (17592186043904) (za), IsC (17592186043904) (((za).natAbs : Int)), IsZ (17592186043904) (zb), IsC (17592186043904) (((zb).natAbs : Int)), IsC (17592186043905) ((((za).natAbs : Int)) + (((zb).natAbs : Int))), At3 N0] (by kernel_rfl) ?mono rfl ?steps ?last
  case mono =>
    simp only [List.forall_mem_cons, List.not_mem_nil, false_implies, implies_true, and_true]
    refine ⟨?_, ?_, ?_, ?_, ?_, ?_⟩
    all_goals first | exact fun _ _ _ _ q => q | exact fun _ _ _ he q => q.ext he
  case steps =>
    refine ⟨?_, ?_, ?_, ?_, ?_, ?_, trivial⟩
    all_goals
      intro u0 u1 u2 u3 u4 u5 u6 w1 he hk
      simp [KnownD, Oper.looksAt, Op.operands, Call.operands, List.findIdx?_cons, Act.put] at hk
      simp only [Act.put, List.setIfInBounds_toArray, List.set_cons_succ, List.set_cons_zero]
    · have hb := he.block G0.out
      have q0 := blk_cell hb 0
      have q1 := blk_cell hb 1
      simp at q0 q1
      clear hb
      go_wp2_with fail
      exact ⟨rfl, Ext.refl _, HZ0.out.ext (HE0.out.trans he)⟩
    · have k0 := hk
      have H0 := Lib.hid k0
      clear k0
      go_wp2_with fail
      refine (abs_z (17592186043904) (za) _ _ (H0.out) (by omega)).mono ?_
      rintro e w2 ⟨he2, x, rfl, hx⟩
      have HX := Lib.hid hx
      clear hx
      go_wp2_with fail
      exact ⟨rfl, he2, HX.out⟩
    · have hb := he.block G1.out
      have q0 := blk_cell hb 0
      have q1 := blk_cell hb 1
      simp at q0 q1
      clear hb
      go_wp2_with fail
      exact ⟨rfl, Ext.refl _, HZ1.out.ext (HE0.out.trans he)⟩
    · have k0 := hk
      have H0 := Lib.hid k0
      clear k0
      go_wp2_with fail
      refine (abs_z (17592186043904) (zb) _ _ (H0.out) (by omega)).mono ?_
      rintro e w2 ⟨he2, x, rfl, hx⟩
      have HX := Lib.hid hx
      clear hx
      go_wp2_with fail
      exact ⟨rfl, he2, HX.out⟩
    · obtain ⟨k0, k1⟩ := hk
      have H0 : Hid (IsC (17592186043904) (((za).natAbs : Int)) u1 w1) := Lib.hid (by first | exact k0 | simpa using k0)
      have H1 : Hid (IsC (17592186043904) (((zb).natAbs : Int)) u3 w1) := Lib.hid (by first | exact k1 | simpa using k1)
      clear k0 k1
      go_wp2_with fail
      refine (add_z (17592186043904) (((za).natAbs : Int)) (((zb).natAbs : Int)) _ _ _ ((H0.out.z).mono (by omega)) ((H1.out.z).mono (by omega)) (by omega)).mono ?_
      rintro e w2 ⟨he2, x, rfl, hx⟩
      have HX := Lib.hid hx
      clear hx
      go_wp2_with fail
      exact ⟨rfl, he2, HX.out⟩
    · have hsz : N0 ≤ w1.heap.size := by have := he.size; omega
      go_wp2_with fail
      exact ⟨rfl, Ext.alloc _ _, _, rfl, heap_alloc_new _ _, hsz⟩
  case last =>
    rename_i K aK
    have AK := Lib.hid aK
    clear aK
    intro w5 he u0 h0 u1 h1 u2 h2 u3 h3 u4 h4 u5 h5
    obtain ⟨p, rfl, hp, hge⟩ := h5
    have hy : IsC 17592186043905 (((za).natAbs : Int) + ((zb).natAbs : Int)) u4 w5 := h4
    clear h0 h1 h2 h3 h4
    obtain ⟨m, aa, ll, cc, rfl⟩ := hy.form
    simp only [LastD, Act.put, List.setIfInBounds_toArray, List.set_cons_succ, List.set_cons_zero]
    have d0 := blk_cell hp 0
    have d1 := blk_cell hp 1
    have f0 := blk_free hp 0
    have f1 := blk_free hp 1
    simp at d0 d1
    have HP := Lib.hid hp
    have HY := Lib.hid hy
    have HE5 := Lib.hid he
    have HGE := Lib.hid hge
    clear hp hy he hge
    go_wp2_with fail
    obtain ⟨e0, e1, hu⟩ := set2 HP.out (.bool m) (.slice aa ll cc)
    have q9 := blk2_set1 (blk2_set0 HP.out (.bool m)) (.slice aa ll cc)
    change K _ ((w5.setCell ⟨p, 0, none⟩ (.bool m)).setCell ⟨p, 1, none⟩ (.slice aa ll cc))
    have HV7 := Lib.hid (HY.out.upd HP.out (by decide) hu)
    have HE7 := Lib.hid (hu.ext (HE0.out.trans HE5.out) (by intro i hi; subst hi; have := HGE.out; have := HSZ.out; omega))
    have q0 := hu.heap (HE5.out.block G0.out) (by have := HGE.out; have := HSZ.out; omega)
    have q1 := hu.heap (HE5.out.block G1.out) (by have := HGE.out; have := HSZ.out; omega)
    generalize ((w5.setCell ⟨p, 0, none⟩ (.bool m)).setCell ⟨p, 1, none⟩ (.slice aa ll cc)) = w7 at *
    have Q0 := Lib.hid q0
    have Q1 := Lib.hid q1
    have Q9 := Lib.hid q9
    clear q0 q1 q9 e0 e1 hu d0 d1 f0 f1 HP HY HE5 HE0 G0 G1
    refine AK.out _ _ ?_
    clear AK
    go_wp2_with fail

    refine wp_region_D preExt mixed [IsC (17592186043905) (((za).natAbs : Int) + ((zb).natAbs : Int)), IsZ (17592186043904) (zb), IsC (17592186043904) (((zb).natAbs : Int)), IsC (17592186043906) ((((za).natAbs : Int) + ((zb).natAbs : Int)) - (((zb).natAbs : Int))), IsZ (17592186043904) (za), IsW (17592186043904) (za), IsC (17592186043904) (((za).natAbs : Int)), IsW (17592186043904) (((za).natAbs : Int)), Is (.bool true)] (by kernel_rfl) ?mono rfl ?steps ?last
    case mono =>
      simp only [List.forall_mem_cons, List.not_mem_nil, false_implies, implies_true, and_true]
      refine ⟨?_, ?_, ?_, ?_, ?_, ?_, ?_, ?_, ?_⟩
      all_goals first | exact fun _ _ _ _ q => q | exact fun _ _ _ he q => q.ext he
    case steps =>
      refine ⟨?_, ?_, ?_, ?_, ?_, ?_, ?_, ?_, ?_, trivial⟩
      all_goals
        intro u0 u1 u2 u3 u4 u5 u6 u7 u8 u9 w1 he hk
        simp [KnownD, Oper.looksAt, Op.operands, Call.operands, List.findIdx?_cons, Act.put] at hk
        simp only [Act.put, List.setIfInBounds_toArray, List.set_cons_succ, List.set_cons_zero]
      · have hb := he.block Q9.out
        have q0 := blk_cell hb 0
        have q1 := blk_cell hb 1
        simp at q0 q1
        clear hb
        go_wp2_with fail
        exact ⟨rfl, Ext.refl _, HV7.out.ext he⟩
      · have hb := he.block Q1.out
        have q0 := blk_cell hb 0
        have q1 := blk_cell hb 1
        simp at q0 q1
        clear hb
        go_wp2_with fail
        exact ⟨rfl, Ext.refl _, HZ1.out.ext (HE7.out.trans he)⟩
      · have k0 := hk
        have H0 := Lib.hid k0
        clear k0
        go_wp2_with fail
        refine (abs_z (17592186043904) (zb) _ _ (H0.out) (by omega)).mono ?_
        rintro e w2 ⟨he2, x, rfl, hx⟩
        have HX := Lib.hid hx
        clear hx
        go_wp2_with fail
        exact ⟨rfl, he2, HX.out⟩
      · obtain ⟨k0, k1⟩ := hk
        have H0 : Hid (IsC (17592186043905) (((za).natAbs : Int) + ((zb).natAbs : Int)) u0 w1) := Lib.hid (by first | exact k0 | simpa using k0)
        have H1 : Hid (IsC (17592186043904) (((zb).natAbs : Int)) u2 w1) := Lib.hid (by first | exact k1 | simpa using k1)
        clear k0 k1
        go_wp2_with fail
        refine (sub_z (17592186043905) (((za).natAbs : Int) + ((zb).natAbs : Int)) (((zb).natAbs : Int)) _ _ _ ((H0.out.z).mono (by omega)) ((H1.out.z).mono (by omega)) (by omega)).mono ?_
        rintro e w2 ⟨he2, x, rfl, hx⟩
        have HX := Lib.hid hx
        clear hx
        go_wp2_with fail
        exact ⟨rfl, he2, HX.out⟩
      · have hb := he.block Q0.out
        have q0 := blk_cell hb 0
        have q1 := blk_cell hb 1
        simp at q0 q1
        clear hb
        go_wp2_with fail
        exact ⟨rfl, Ext.refl _, HZ0.out.ext (HE7.out.trans he)⟩
      · have k0 := hk
        have H0 := Lib.hid k0
        clear k0
        go_wp2_with fail
        refine (toSpec_z (17592186043904) (za) _ _ (H0.out) (by omega)).mono ?_
        rintro e w2 ⟨he2, x, rfl, hx⟩
        have HX := Lib.hid hx
        clear hx
        go_wp2_with fail
        exact ⟨rfl, he2, HX.out⟩
      · have k0 := hk
        have H0 := Lib.hid k0
        clear k0
        go_wp2_with fail
        refine (specAbs_z (17592186043904) (za) _ _ (H0.out.z) (by omega)).mono ?_
        rintro e w2 ⟨he2, x, rfl, hx⟩
        have HX := Lib.hid hx
        clear hx
        go_wp2_with fail
        exact ⟨rfl, he2, HX.out⟩
      · have k0 := hk
        have H0 : Hid (IsC (17592186043904) (((za).natAbs : Int)) u6 w1) := Lib.hid (by first | exact k0 | simpa using k0)
        clear k0
        go_wp2_with fail
        refine (fromSpec_z (17592186043904) (((za).natAbs : Int)) _ _ (H0.out.w)).mono ?_
        rintro e w2 ⟨he2, x, rfl, hx⟩
        have HX := Lib.hid hx
        clear hx
        go_wp2_with fail
        exact ⟨rfl, he2, HX.out⟩
      · obtain ⟨k0, k1⟩ := hk
        have H0 : Hid (IsC (17592186043906) ((((za).natAbs : Int) + ((zb).natAbs : Int)) - (((zb).natAbs : Int))) u3 w1) := Lib.hid (by first | exact k0 | simpa using k0)
        have H1 : Hid (IsW (17592186043904) (((za).natAbs : Int)) u7 w1) := Lib.hid (by first | exact k1 | simpa using k1)
        clear k0 k1
        go_wp2_with fail
        refine (same_z (17592186043906) (17592186043904) ((((za).natAbs : Int) + ((zb).natAbs : Int)) - (((zb).natAbs : Int))) (((za).natAbs : Int)) _ _ _ (H0.out.z) (H1.out.z) (by omega) (by omega)).mono ?_
        rintro e w2 ⟨he2, x, rfl, hx⟩
        obtain rfl : x = .bool true := hx.trans (by simp; try omega)
        go_wp2_with fail
        exact ⟨rfl, he2, rfl⟩
    case last =>
      rename_i K aK
      have AK := Lib.hid aK
      clear aK
      intro w8 he u0 h0 u1 h1 u2 h2 u3 h3 u4 h4 u5 h5 u6 h6 u7 h7 u8 h8
      obtain rfl : u8 = .bool true := h8
      clear h0 h1 h2 h3 h4 h5 h6 h7
      simp only [LastD, Act.put, List.setIfInBounds_toArray, List.set_cons_succ, List.set_cons_zero]
      have HE8 := Lib.hid (HE7.out.trans he)
      have HV8 := Lib.hid (HV7.out.ext he)
      have S0 := Lib.hid (he.block Q0.out)
      have S1 := Lib.hid (he.block Q1.out)
      have S9 := Lib.hid (he.block Q9.out)
      clear he
      go_wp2_with fail
      refine AK.out _ _ ?_
      clear AK
      go_wp2_with fail

      refine wp_region_D preExt mixed [IsZ (17592186043904) (za), Is (.int .i64 (sgnZ (za))), IsZ (17592186043904) (zb), Is (.int .i64 (sgnZ (zb))), Is (.int .i64 (sgnZ za * sgnZ zb))] (by kernel_rfl) ?mono rfl ?steps ?last
      case mono =>
        simp only [List.forall_mem_cons, List.not_mem_nil, false_implies, implies_true, and_true]
        refine ⟨?_, ?_, ?_, ?_, ?_⟩
        all_goals first | exact fun _ _ _ _ q => q | exact fun _ _ _ he q => q.ext he
      case steps =>
        refine ⟨?_, ?_, ?_, ?_, ?_, trivial⟩
        all_goals
          intro u0 u1 u2 u3 u4 u5 w1 he hk
          simp [KnownD, Oper.looksAt, Op.operands, Call.operands, List.findIdx?_cons, Act.put] at hk
          simp only [Act.put, List.setIfInBounds_toArray, List.set_cons_succ, List.set_cons_zero]
        · have hb := he.block S0.out
          have q0 := blk_cell hb 0
          have q1 := blk_cell hb 1
          simp at q0 q1
          clear hb
          go_wp2_with fail
          exact ⟨rfl, Ext.refl _, HZ0.out.ext (HE8.out.trans he)⟩
        · have k0 := hk
          have H0 := Lib.hid k0
          clear k0
          go_wp2_with fail
          refine (signOf_z (17592186043904) (za) _ _ (H0.out) (by omega)).mono ?_
          rintro e w2 ⟨he2, x, rfl, hx⟩
          obtain rfl : x = .int .i64 (sgnZ (za)) := hx
          go_wp2_with fail
          exact ⟨rfl, he2, rfl⟩
        · have hb := he.block S1.out
          have q0 := blk_cell hb 0
          have q1 := blk_cell hb 1
          simp at q0 q1
          clear hb
          go_wp2_with fail
          exact ⟨rfl, Ext.refl _, HZ1.out.ext (HE8.out.trans he)⟩
        · have k0 := hk
          have H0 := Lib.hid k0
          clear k0
          go_wp2_with fail
          refine (signOf_z (17592186043904) (zb) _ _ (H0.out) (by omega)).mono ?_
          rintro e w2 ⟨he2, x, rfl, hx⟩
          obtain rfl : x = .int .i64 (sgnZ (zb)) := hx
          go_wp2_with fail
          exact ⟨rfl, he2, rfl⟩
        · obtain ⟨k0, k1⟩ := hk
          obtain rfl : u1 = .int .i64 (sgnZ (za)) := k0
          obtain rfl : u3 = .int .i64 (sgnZ (zb)) := k1
          go_wp2_with fail
          exact ⟨rfl, Ext.refl _, by show (_ : Value) = _; (have := sgn_abs za zb; simp [wrap64]; omega); try rfl⟩
      case last =>
        rename_i K aK
        have AK := Lib.hid aK
        clear aK
        intro w9 he u0 h0 u1 h1 u2 h2 u3 h3 u4 h4
        obtain rfl : u4 = .int .i64 (sgnZ za * sgnZ zb) := h4
        clear h0 h1 h2 h3
        simp only [LastD, Act.put, List.setIfInBounds_toArray, List.set_cons_succ, List.set_cons_zero]
        have HE9 := Lib.hid (HE8.out.trans he)
        have HV9 := Lib.hid (HV8.out.ext he)
        have T0 := Lib.hid (he.block S0.out)
        have T1 := Lib.hid (he.block S1.out)
        have T9 := Lib.hid (he.block S9.out)
        clear he
        have hsg := sgn_mul_lt za zb HC.out
        have hsg2 : decide (0 ≤ sgnZ za * sgnZ zb) = false := by simp; omega
        go_wp2_with fail
        clear hsg hsg2
        refine AK.out _ _ ?_
        clear AK
        go_wp2_with fail

        refine wp_region_D preExt mixed [IsC (17592186043905) (((za).natAbs : Int) + ((zb).natAbs : Int)), IsZ (17592186043904) (za), IsZ (17592186043904) (zb), IsC (17592186043905) ((za) - (zb)), IsC (17592186043905) ((((za) - (zb)).natAbs : Int)), Is (.bool true)] (by kernel_rfl) ?mono rfl ?steps ?last
        case mono =>
          simp only [List.forall_mem_cons, List.not_mem_nil, false_implies, implies_true, and_true]
          refine ⟨?_, ?_, ?_, ?_, ?_, ?_⟩
          all_goals first | exact fun _ _ _ _ q => q | exact fun _ _ _ he q => q.ext he
        case steps =>
          refine ⟨?_, ?_, ?_, ?_, ?_, ?_, trivial⟩
          all_goals
            intro u0 u1 u2 u3 u4 u5 u6 w1 he hk
            simp [KnownD, Oper.looksAt, Op.operands, Call.operands, List.findIdx?_cons, Act.put] at hk
            simp only [Act.put, List.setIfInBounds_toArray, List.set_cons_succ, List.set_cons_zero]
          · have hb := he.block T9.out
            have q0 := blk_cell hb 0
            have q1 := blk_cell hb 1
            simp at q0 q1
            clear hb
            go_wp2_with fail
            exact ⟨rfl, Ext.refl _, HV9.out.ext he⟩
          · have hb := he.block T0.out
            have q0 := blk_cell hb 0
            have q1 := blk_cell hb 1
            simp at q0 q1
            clear hb
            go_wp2_with fail
            exact ⟨rfl, Ext.refl _, HZ0.out.ext (HE9.out.trans he)⟩
          · have hb := he.block T1.out
            have q0 := blk_cell hb 0
            have q1 := blk_cell hb 1
            simp at q0 q1
            clear hb
            go_wp2_with fail
            exact ⟨rfl, Ext.refl _, HZ1.out.ext (HE9.out.trans he)⟩
          · obtain ⟨k0, k1⟩ := hk
            have H0 := Lib.hid k0
            have H1 := Lib.hid k1
            clear k0 k1
            go_wp2_with fail
            refine (sub_z (17592186043904) (za) (zb) _ _ _ ((H0.out).mono (by omega)) ((H1.out).mono (by omega)) (by omega)).mono ?_
            rintro e w2 ⟨he2, x, rfl, hx⟩
            have HX := Lib.hid hx
            clear hx
            go_wp2_with fail
            exact ⟨rfl, he2, HX.out⟩
          · have k0 := hk
            have H0 : Hid (IsC (17592186043905) ((za) - (zb)) u3 w1) := Lib.hid (by first | exact k0 | simpa using k0)
            clear k0
            go_wp2_with fail
            refine (abs_z (17592186043905) ((za) - (zb)) _ _ (H0.out.z) (by omega)).mono ?_
            rintro e w2 ⟨he2, x, rfl, hx⟩
            have HX := Lib.hid hx
            clear hx
            go_wp2_with fail
            exact ⟨rfl, he2, HX.out⟩
          · obtain ⟨k0, k1⟩ := hk
            have H0 : Hid (IsC (17592186043905) (((za).natAbs : Int) + ((zb).natAbs : Int)) u0 w1) := Lib.hid (by first | exact k0 | simpa using k0)
            have H1 : Hid (IsC (17592186043905) ((((za) - (zb)).natAbs : Int)) u4 w1) := Lib.hid (by first | exact k1 | simpa using k1)
            clear k0 k1
            go_wp2_with fail
            refine (same_z (17592186043905) (17592186043905) (((za).natAbs : Int) + ((zb).natAbs : Int)) ((((za) - (zb)).natAbs : Int)) _ _ _ (H0.out.z) (H1.out.z) (by omega) (by omega)).mono ?_
            rintro e w2 ⟨he2, x, rfl, hx⟩
            obtain rfl : x = .bool true := hx.trans (by have := HC.out; simp; omega)
            go_wp2_with fail
            exact ⟨rfl, he2, rfl⟩
        case last =>
          intro w1 he u0 h0 u1 h1 u2 h2 u3 h3 u4 h4 u5 h5
          obtain rfl : u5 = .bool true := h5
          clear h0 h1 h2 h3 h4
          simp only [LastD, Act.put, List.setIfInBounds_toArray, List.set_cons_succ, List.set_cons_zero]
          have HE := Lib.hid ((HE9.out).trans he)
          clear he
          go_wp2_with fail
          go_ret
          exact ⟨HE.out, rfl⟩







theorem fnSignedParts_walk (n0 : Bool) (v0 : Value) (ws0 : List Nat) (n1 : Bool) (v1 : Value) (ws1 : List Nat) (w : World) (hr0 : Rd .u64 w v0 ws0) (hl0 : ws0.length ≤ 17592186043904) (hr1 : Rd .u64 w v1 ws1) (hl1 : ws1.length ≤ 17592186043904) :
    Calls Try.prog 13 #[.agg #[.bool n0, v0], .agg #[.bool n1, v1]] w (ValR (.bool true) w) := by
  by_cases h : (0 ≤ ival n0 ws0 ∧ 0 ≤ ival n1 ws1) ∨ (ival n0 ws0 ≤ 0 ∧ ival n1 ws1 ≤ 0)
  · exact fnSignedParts_y n0 v0 ws0 n1 v1 ws1 w hr0 hl0 hr1 hl1 h
  · exact fnSignedParts_n n0 v0 ws0 n1 v1 ws1 w hr0 hl0 hr1 hl1 (by omega)

end Go.Proofs.Ytacmojhladdalaa

