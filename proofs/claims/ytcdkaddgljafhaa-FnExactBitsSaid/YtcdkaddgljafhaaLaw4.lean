/- Walk of FnExactBits (printed by lawgen.py). -/
import Derived.Test.YtcdkaddgljafhaaSetU
import Derived.Test.YtcdkaddgljafhaaSame
set_option linter.unusedSimpArgs false
set_option linter.unusedVariables false
namespace Go.Proofs.Ytcdkaddgljafhaa
open Go.RowKit

/-- The words of an absolute value. -/
def IsB (L : Nat) (z : Int) (x : Value) (w : World) : Prop := ∃ ws, Own .u64 w 0 38 x ws ∧ norm ws = ws ∧ val ws = z.natAbs ∧ ws.length ≤ L

theorem IsB.ext {L : Nat} {z : Int} {x : Value} {w w' : World} (h : IsB L z x w) (he : Ext w w') : IsB L z x w' := by
  obtain ⟨ws, h1, h2⟩ := h; exact ⟨ws, h1.ext he, h2⟩

theorem implBits_b (L : Nat) (z : Int) (x : Value) (w : World) (h : IsZ L z x w) (hL : L ≤ 17592186044416) :
    Calls Try.prog 32 #[x] w (ResR (IsB L z) w) := by
  refine (implBits_z L z x w h hL).mono ?_
  rintro e w' ⟨he, s, ws, rfl, h1⟩
  exact ⟨he, s, rfl, ws, h1⟩

theorem isC_bits {L : Nat} {z : Int} {s : Value} {w : World} {ws : List Nat} (ho : Own .u64 w 0 38 s ws) (hn : norm ws = ws) (hv : val ws = z.natAbs) (hl : ws.length ≤ L) : IsC L (z.natAbs : Int) (.agg #[.bool false, s]) w := by
  refine ⟨s, ws, ?_, ho, hn, by rw [hv]; simp, hl⟩
  rw [decide_eq_false (by omega)]

set_option maxHeartbeats 1000000 in
theorem fnExactBits_walk (n0 : Bool) (v0 : Value) (ws0 : List Nat) (w : World) (hr0 : Rd .u64 w v0 ws0) (hl0 : ws0.length ≤ 17592186043904)  :
    Calls Try.prog 9 #[.agg #[.bool n0, v0]] w (ValR (.bool true) w) := by
  obtain ⟨a0, c0, rfl⟩ := hr0.form
  have hz0 : IsZ 17592186043904 (ival n0 ws0) (.agg #[.bool n0, .slice a0 ws0.length c0]) w := ⟨n0, _, ws0, rfl, hr0, hl0, rfl⟩
  generalize hg0 : ival n0 ws0 = z at hz0
  have HZ0 := Lib.hid hz0
  have HG0 := Lib.hid hg0
  clear hz0 hg0 hr0
  go_enter Try.func9, Try.ntmps9
  go_wp2_with fail
  refine wp_region_D preExt mixed [IsZ (17592186043904) (z), IsW (17592186043904) (z), IsB (17592186043904) (z), IsC (17592186043904) (((z).natAbs : Int)), IsZ (17592186043904) (z), IsW (17592186043904) (z), IsC (17592186043904) (((z).natAbs : Int)), IsW (17592186043904) (((z).natAbs : Int)), Is (.bool true)] (by kernel_rfl) ?mono rfl ?steps ?last
  case mono =>
    simp only [List.forall_mem_cons, List.not_mem_nil, false_implies, implies_true, and_true]
    refine ⟨?_, ?_, ?_, ?_, ?_, ?_, ?_, ?_, ?_⟩
    all_goals first | exact fun _ _ _ _ q => q | exact fun _ _ _ he q => q.ext he
  case steps =>
    refine ⟨?_, ?_, ?_, ?_, ?_, ?_, ?_, ?_, ?_, trivial⟩
    all_goals
      intro u0 u1 u2 u3 u4 u5 u6 u7 u8 u9 w1 he hk
      simp [KnownD, Oper.looksAt, Op.operands, Call.operands, List.findIdx?_cons, Act.put] at hk
      simp only [Act.put, List.setIfInBounds_toArray, List.set_cons_succ, List.set_cons_zero]
    · have hc := fun a v h => Ext.cell he (a := a) (v := v) h
      go_wp2_with fail
      exact ⟨rfl, Ext.refl _, HZ0.out.ext ((Ext.alloc _ _).trans he)⟩
    · have k0 := hk
      have H0 := Lib.hid k0
      clear k0
      go_wp2_with fail
      refine (toImpl_z (17592186043904) (z) _ _ (H0.out) (by omega)).mono ?_
      rintro e w2 ⟨he2, x, rfl, hx⟩
      have HX := Lib.hid hx
      clear hx
      go_wp2_with fail
      exact ⟨rfl, he2, HX.out⟩
    · have k0 := hk
      have H0 := Lib.hid k0
      clear k0
      go_wp2_with fail
      refine (implBits_b (17592186043904) (z) _ _ (H0.out.z) (by omega)).mono ?_
      rintro e w2 ⟨he2, x, rfl, hx⟩
      have HX := Lib.hid hx
      clear hx
      go_wp2_with fail
      exact ⟨rfl, he2, HX.out⟩
    · have k0 := hk
      obtain ⟨ws, ho, hn, hv, hl⟩ := k0
      obtain ⟨a', c', rfl⟩ := ho.form
      go_wp2_with fail
      exact ⟨rfl, Ext.refl _, isC_bits ho hn hv hl⟩
    · have hc := fun a v h => Ext.cell he (a := a) (v := v) h
      go_wp2_with fail
      exact ⟨rfl, Ext.refl _, HZ0.out.ext ((Ext.alloc _ _).trans he)⟩
    · have k0 := hk
      have H0 := Lib.hid k0
      clear k0
      go_wp2_with fail
      refine (toSpec_z (17592186043904) (z) _ _ (H0.out) (by omega)).mono ?_
      rintro e w2 ⟨he2, x, rfl, hx⟩
      have HX := Lib.hid hx
      clear hx
      go_wp2_with fail
      exact ⟨rfl, he2, HX.out⟩
    · have k0 := hk
      have H0 := Lib.hid k0
      clear k0
      go_wp2_with fail
      refine (specAbs_z (17592186043904) (z) _ _ (H0.out.z) (by omega)).mono ?_
      rintro e w2 ⟨he2, x, rfl, hx⟩
      have HX := Lib.hid hx
      clear hx
      go_wp2_with fail
      exact ⟨rfl, he2, HX.out⟩
    · have k0 := hk
      have H0 := Lib.hid k0
      clear k0
      go_wp2_with fail
      refine (fromSpec_z (17592186043904) (((z).natAbs : Int)) _ _ (H0.out.w)).mono ?_
      rintro e w2 ⟨he2, x, rfl, hx⟩
      have HX := Lib.hid hx
      clear hx
      go_wp2_with fail
      exact ⟨rfl, he2, HX.out⟩
    · obtain ⟨k0, k1⟩ := hk
      have H0 := Lib.hid k0
      have H1 := Lib.hid k1
      clear k0 k1
      go_wp2_with fail
      refine (same_z (17592186043904) (17592186043904) (((z).natAbs : Int)) (((z).natAbs : Int)) _ _ _ (H0.out.z) (H1.out.z) (by omega) (by omega)).mono ?_
      rintro e w2 ⟨he2, x, rfl, hx⟩
      obtain rfl : x = .bool true := hx.trans (by simp)
      go_wp2_with fail
      exact ⟨rfl, he2, rfl⟩
  case last =>
    intro w1 he u0 h0 u1 h1 u2 h2 u3 h3 u4 h4 u5 h5 u6 h6 u7 h7 u8 h8
    obtain rfl : u8 = .bool true := h8
    clear h0 h1 h2 h3 h4 h5 h6 h7
    simp only [LastD, Act.put, List.setIfInBounds_toArray, List.set_cons_succ, List.set_cons_zero]
    have HE := Lib.hid ((Ext.alloc _ _).trans he)
    clear he
    go_wp2_with fail
    go_ret
    exact ⟨HE.out, rfl⟩

end Go.Proofs.Ytcdkaddgljafhaa

