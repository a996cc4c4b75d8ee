/- Walks of FnExactIsUint64, FnExactUint64 (printed by lawgen.py). -/
import Derived.Test.YtcdkaddgljafhaaBits
set_option linter.unusedSimpArgs false
set_option linter.unusedVariables false
namespace Go.Proofs.Ytcdkaddgljafhaa
open Go.RowKit

set_option maxHeartbeats 1000000 in
theorem fnExactIsUint64_walk (n0 : Bool) (v0 : Value) (ws0 : List Nat) (w : World) (hr0 : Rd .u64 w v0 ws0) (hl0 : ws0.length ≤ 17592186043904)  :
    Calls Try.prog 3 #[.agg #[.bool n0, v0]] w (ValR (.bool true) w) := by
  obtain ⟨a0, c0, rfl⟩ := hr0.form
  have hz0 : IsZ 17592186043904 (ival n0 ws0) (.agg #[.bool n0, .slice a0 ws0.length c0]) w := ⟨n0, _, ws0, rfl, hr0, hl0, rfl⟩
  generalize hg0 : ival n0 ws0 = z at hz0
  have HZ0 := Lib.hid hz0
  have HG0 := Lib.hid hg0
  clear hz0 hg0 hr0
  go_enter Try.func3, Try.ntmps3
  go_wp2_with fail
  refine wp_region_D preExt mixed [IsZ (17592186043904) (z), IsW (17592186043904) (z), Is (.bool (isU (z))), IsZ (17592186043904) (z), IsW (17592186043904) (z), Is (.bool (isU (z))), Is (.bool true)] (by kernel_rfl) ?mono rfl ?steps ?last
  case mono =>
    simp only [List.forall_mem_cons, List.not_mem_nil, false_implies, implies_true, and_true]
    refine ⟨?_, ?_, ?_, ?_, ?_, ?_, ?_⟩
    all_goals first | exact fun _ _ _ _ q => q | exact fun _ _ _ he q => q.ext he
  case steps =>
    refine ⟨?_, ?_, ?_, ?_, ?_, ?_, ?_, trivial⟩
    all_goals
      intro u0 u1 u2 u3 u4 u5 u6 u7 w1 he hk
      simp [KnownD, Oper.looksAt, Op.operands, Call.operands, List.findIdx?_cons, Act.put] at hk
      simp only [Act.put, List.setIfInBounds_toArray, List.set_cons_succ, List.set_cons_zero]
    · have hc := fun a v h => Ext.cell he (a := a) (v := v) h
      go_wp2_with fail
      exact ⟨rfl, Ext.refl _, HZ0.out.ext ((Ext.alloc _ _).trans he)⟩
    · have k0 := hk
      have H0 := Lib.hid k0
      clear k0
      go_wp2_with fail
      refine (toImpl_z (17592186043904) (z) _ _ (H0.out) (by omega)).mono ?_
      rintro e w2 ⟨he2, x, rfl, hx⟩
      have HX := Lib.hid hx
      clear hx
      go_wp2_with fail
      exact ⟨rfl, he2, HX.out⟩
    · have k0 := hk
      have H0 := Lib.hid k0
      clear k0
      go_wp2_with fail
      refine (implIsUint64_z (17592186043904) (z) _ _ (H0.out.z) (by omega)).mono ?_
      rintro e w2 ⟨he2, x, rfl, hx⟩
      obtain rfl : x = .bool (isU (z)) := hx
      go_wp2_with fail
      exact ⟨rfl, he2, rfl⟩
    · have hc := fun a v h => Ext.cell he (a := a) (v := v) h
      go_wp2_with fail
      exact ⟨rfl, Ext.refl _, HZ0.out.ext ((Ext.alloc _ _).trans he)⟩
    · have k0 := hk
      have H0 := Lib.hid k0
      clear k0
      go_wp2_with fail
      refine (toSpec_z (17592186043904) (z) _ _ (H0.out) (by omega)).mono ?_
      rintro e w2 ⟨he2, x, rfl, hx⟩
      have HX := Lib.hid hx
      clear hx
      go_wp2_with fail
      exact ⟨rfl, he2, HX.out⟩
    · have k0 := hk
      have H0 := Lib.hid k0
      clear k0
      go_wp2_with fail
      refine (specIsUint64_z (17592186043904) (z) _ _ (H0.out.z) (by omega)).mono ?_
      rintro e w2 ⟨he2, x, rfl, hx⟩
      obtain rfl : x = .bool (isU (z)) := hx
      go_wp2_with fail
      exact ⟨rfl, he2, rfl⟩
    · obtain ⟨k0, k1⟩ := hk
      obtain rfl : u2 = .bool (isU (z)) := k0
      obtain rfl : u5 = .bool (isU (z)) := k1
      go_wp2_with fail
      exact ⟨rfl, Ext.refl _, by show (_ : Value) = _; simp⟩
  case last =>
    intro w1 he u0 h0 u1 h1 u2 h2 u3 h3 u4 h4 u5 h5 u6 h6
    obtain rfl : u6 = .bool true := h6
    clear h0 h1 h2 h3 h4 h5
    simp only [LastD, Act.put, List.setIfInBounds_toArray, List.set_cons_succ, List.set_cons_zero]
    have HE := Lib.hid ((Ext.alloc _ _).trans he)
    clear he
    go_wp2_with fail
    go_ret
    exact ⟨HE.out, rfl⟩

set_option maxHeartbeats 1000000 in
theorem fnExactUint64_walk_t (n0 : Bool) (v0 : Value) (ws0 : List Nat) (w : World) (hr0 : Rd .u64 w v0 ws0) (hl0 : ws0.length ≤ 17592186043904)  (hc : isU (ival n0 ws0) = true) :
    Calls Try.prog 6 #[.agg #[.bool n0, v0]] w (ValR (.bool true) w) := by
  obtain ⟨a0, c0, rfl⟩ := hr0.form
  have hz0 : IsZ 17592186043904 (ival n0 ws0) (.agg #[.bool n0, .slice a0 ws0.length c0]) w := ⟨n0, _, ws0, rfl, hr0, hl0, rfl⟩
  generalize hg0 : ival n0 ws0 = z at hz0
  have HZ0 := Lib.hid hz0
  have HG0 := Lib.hid hg0
  clear hz0 hg0 hr0
  have HC : Hid (isU z = true) := by rw [HG0.out] at hc; exact hc
  clear hc
  go_enter Try.func6, Try.ntmps6
  go_wp2_with fail
  refine wp_region_D preExt mixed [IsZ (17592186043904) (z), IsW (17592186043904) (z), Is (.bool true), Is (.bool false), Is (.bool false), IsZ (17592186043904) (z), IsW (17592186043904) (z), Is (.int .u64 (low (z))), IsZ (17592186043904) (z), IsW (17592186043904) (z), Is (.int .u64 (low (z))), Is (.bool true), Is (.bool true)] (by kernel_rfl) ?mono rfl ?steps ?last
  case mono =>
    simp only [List.forall_mem_cons, List.not_mem_nil, false_implies, implies_true, and_true]
    refine ⟨?_, ?_, ?_, ?_, ?_, ?_, ?_, ?_, ?_, ?_, ?_, ?_, ?_⟩
    all_goals first | exact fun _ _ _ _ q => q | exact fun _ _ _ he q => q.ext he
  case steps =>
    refine ⟨?_, ?_, ?_, ?_, ?_, ?_, ?_, ?_, ?_, ?_, ?_, ?_, ?_, trivial⟩
    all_goals
      intro u0 u1 u2 u3 u4 u5 u6 u7 u8 u9 u10 u11 u12 u13 w1 he hk
      simp [KnownD, Oper.looksAt, Op.operands, Call.operands, List.findIdx?_cons, Act.put] at hk
      simp only [Act.put, List.setIfInBounds_toArray, List.set_cons_succ, List.set_cons_zero]
    · have hc := fun a v h => Ext.cell he (a := a) (v := v) h
      go_wp2_with fail
      exact ⟨rfl, Ext.refl _, HZ0.out.ext ((Ext.alloc _ _).trans he)⟩
    · have k0 := hk
      have H0 := Lib.hid k0
      clear k0
      go_wp2_with fail
      refine (toSpec_z (17592186043904) (z) _ _ (H0.out) (by omega)).mono ?_
      rintro e w2 ⟨he2, x, rfl, hx⟩
      have HX := Lib.hid hx
      clear hx
      go_wp2_with fail
      exact ⟨rfl, he2, HX.out⟩
    · have k0 := hk
      have H0 := Lib.hid k0
      clear k0
      go_wp2_with fail
      refine (specIsUint64_z (17592186043904) (z) _ _ (H0.out.z) (by omega)).mono ?_
      rintro e w2 ⟨he2, x, rfl, hx⟩
      obtain rfl : x = .bool true := hx.trans (by rw [HC.out])
      go_wp2_with fail
      exact ⟨rfl, he2, rfl⟩
    · have k0 := hk
      obtain rfl : u2 = .bool true := k0
      go_wp2_with fail
      exact ⟨rfl, Ext.refl _, by show (_ : Value) = _; first | rfl | simp⟩
    · have k0 := hk
      obtain rfl : u3 = .bool false := k0
      go_wp2_with fail
      exact ⟨rfl, Ext.refl _, by show (_ : Value) = _; first | rfl | simp⟩
    · have k0 := hk
      obtain rfl : u4 = .bool false := k0
      have hc := fun a v h => Ext.cell he (a := a) (v := v) h
      go_wp2_with fail
      exact ⟨rfl, Ext.refl _, HZ0.out.ext ((Ext.alloc _ _).trans he)⟩
    · obtain ⟨k0, k1⟩ := hk
      obtain rfl : u4 = .bool false := k1
      have H0 := Lib.hid k0
      clear k0
      go_wp2_with fail
      refine (toImpl_z (17592186043904) (z) _ _ (H0.out) (by omega)).mono ?_
      rintro e w2 ⟨he2, x, rfl, hx⟩
      have HX := Lib.hid hx
      clear hx
      go_wp2_with fail
      exact ⟨rfl, he2, HX.out⟩
    · obtain ⟨k0, k1⟩ := hk
      obtain rfl : u4 = .bool false := k1
      have H0 := Lib.hid k0
      clear k0
      go_wp2_with fail
      refine (implUint64_z (17592186043904) (z) _ _ (H0.out.z) (by omega)).mono ?_
      rintro e w2 ⟨he2, x, rfl, hx⟩
      obtain rfl : x = .int .u64 (low (z)) := hx
      go_wp2_with fail
      exact ⟨rfl, he2, rfl⟩
    · have k0 := hk
      obtain rfl : u4 = .bool false := k0
      have hc := fun a v h => Ext.cell he (a := a) (v := v) h
      go_wp2_with fail
      exact ⟨rfl, Ext.refl _, HZ0.out.ext ((Ext.alloc _ _).trans he)⟩
    · obtain ⟨k0, k1⟩ := hk
      obtain rfl : u4 = .bool false := k1
      have H0 := Lib.hid k0
      clear k0
      go_wp2_with fail
      refine (toSpec_z (17592186043904) (z) _ _ (H0.out) (by omega)).mono ?_
      rintro e w2 ⟨he2, x, rfl, hx⟩
      have HX := Lib.hid hx
      clear hx
      go_wp2_with fail
      exact ⟨rfl, he2, HX.out⟩
    · obtain ⟨k0, k1⟩ := hk
      obtain rfl : u4 = .bool false := k1
      have H0 := Lib.hid k0
      clear k0
      go_wp2_with fail
      refine (specUint64_z (17592186043904) (z) _ _ (H0.out.z) (by omega)).mono ?_
      rintro e w2 ⟨he2, x, rfl, hx⟩
      obtain rfl : x = .int .u64 (low (z)) := hx
      go_wp2_with fail
      exact ⟨rfl, he2, rfl⟩
    · obtain ⟨k0, k1, k2⟩ := hk
      obtain rfl : u7 = .int .u64 (low (z)) := k0
      obtain rfl : u10 = .int .u64 (low (z)) := k1
      obtain rfl : u4 = .bool false := k2
      go_wp2_with fail
      exact ⟨rfl, Ext.refl _, by show (_ : Value) = _; simp⟩
    · obtain ⟨k0, k1⟩ := hk
      obtain rfl : u4 = .bool false := k0
      obtain rfl : u11 = .bool true := k1
      go_wp2_with fail
      exact ⟨rfl, Ext.refl _, by show (_ : Value) = _; first | rfl | simp⟩
  case last =>
    intro w1 he u0 h0 u1 h1 u2 h2 u3 h3 u4 h4 u5 h5 u6 h6 u7 h7 u8 h8 u9 h9 u10 h10 u11 h11 u12 h12
    obtain rfl : u12 = .bool true := h12
    clear h0 h1 h2 h3 h4 h5 h6 h7 h8 h9 h10 h11
    simp only [LastD, Act.put, List.setIfInBounds_toArray, List.set_cons_succ, List.set_cons_zero]
    have HE := Lib.hid ((Ext.alloc _ _).trans he)
    clear he
    go_wp2_with fail
    go_ret
    exact ⟨HE.out, rfl⟩

set_option maxHeartbeats 1000000 in
theorem fnExactUint64_walk_f (n0 : Bool) (v0 : Value) (ws0 : List Nat) (w : World) (hr0 : Rd .u64 w v0 ws0) (hl0 : ws0.length ≤ 17592186043904)  (hc : isU (ival n0 ws0) = false) :
    Calls Try.prog 6 #[.agg #[.bool n0, v0]] w (ValR (.bool true) w) := by
  obtain ⟨a0, c0, rfl⟩ := hr0.form
  have hz0 : IsZ 17592186043904 (ival n0 ws0) (.agg #[.bool n0, .slice a0 ws0.length c0]) w := ⟨n0, _, ws0, rfl, hr0, hl0, rfl⟩
  generalize hg0 : ival n0 ws0 = z at hz0
  have HZ0 := Lib.hid hz0
  have HG0 := Lib.hid hg0
  clear hz0 hg0 hr0
  have HC : Hid (isU z = false) := by rw [HG0.out] at hc; exact hc
  clear hc
  go_enter Try.func6, Try.ntmps6
  go_wp2_with fail
  refine wp_region_D preExt mixed [IsZ (17592186043904) (z), IsW (17592186043904) (z), Is (.bool false), Is (.bool true), Is (.bool true), Any, Any, Any, Any, Any, Any, Any, Is (.bool true)] (by kernel_rfl) ?mono rfl ?steps ?last
  case mono =>
    simp only [List.forall_mem_cons, List.not_mem_nil, false_implies, implies_true, and_true]
    refine ⟨?_, ?_, ?_, ?_, ?_, ?_, ?_, ?_, ?_, ?_, ?_, ?_, ?_⟩
    all_goals first | exact fun _ _ _ _ q => q | exact fun _ _ _ he q => q.ext he
  case steps =>
    refine ⟨?_, ?_, ?_, ?_, ?_, ?_, ?_, ?_, ?_, ?_, ?_, ?_, ?_, trivial⟩
    all_goals
      intro u0 u1 u2 u3 u4 u5 u6 u7 u8 u9 u10 u11 u12 u13 w1 he hk
      simp [KnownD, Oper.looksAt, Op.operands, Call.operands, List.findIdx?_cons, Act.put] at hk
      simp only [Act.put, List.setIfInBounds_toArray, List.set_cons_succ, List.set_cons_zero]
    · have hc := fun a v h => Ext.cell he (a := a) (v := v) h
      go_wp2_with fail
      exact ⟨rfl, Ext.refl _, HZ0.out.ext ((Ext.alloc _ _).trans he)⟩
    · have k0 := hk
      have H0 := Lib.hid k0
      clear k0
      go_wp2_with fail
      refine (toSpec_z (17592186043904) (z) _ _ (H0.out) (by omega)).mono ?_
      rintro e w2 ⟨he2, x, rfl, hx⟩
      have HX := Lib.hid hx
      clear hx
      go_wp2_with fail
      exact ⟨rfl, he2, HX.out⟩
    · have k0 := hk
      have H0 := Lib.hid k0
      clear k0
      go_wp2_with fail
      refine (specIsUint64_z (17592186043904) (z) _ _ (H0.out.z) (by omega)).mono ?_
      rintro e w2 ⟨he2, x, rfl, hx⟩
      obtain rfl : x = .bool false := hx.trans (by rw [HC.out])
      go_wp2_with fail
      exact ⟨rfl, he2, rfl⟩
    · have k0 := hk
      obtain rfl : u2 = .bool false := k0
      go_wp2_with fail
      exact ⟨rfl, Ext.refl _, by show (_ : Value) = _; first | rfl | simp⟩
    · have k0 := hk
      obtain rfl : u3 = .bool true := k0
      go_wp2_with fail
      exact ⟨rfl, Ext.refl _, by show (_ : Value) = _; first | rfl | simp⟩
    · have k0 := hk
      obtain rfl : u4 = .bool true := k0
      go_wp2_with fail
      exact ⟨rfl, Ext.refl _, trivial⟩
    · obtain ⟨k0, k1⟩ := hk
      obtain rfl : u4 = .bool true := k1
      go_wp2_with fail
      exact ⟨rfl, Ext.refl _, trivial⟩
    · obtain ⟨k0, k1⟩ := hk
      obtain rfl : u4 = .bool true := k1
      go_wp2_with fail
      exact ⟨rfl, Ext.refl _, trivial⟩
    · have k0 := hk
      obtain rfl : u4 = .bool true := k0
      go_wp2_with fail
      exact ⟨rfl, Ext.refl _, trivial⟩
    · obtain ⟨k0, k1⟩ := hk
      obtain rfl : u4 = .bool true := k1
      go_wp2_with fail
      exact ⟨rfl, Ext.refl _, trivial⟩
    · obtain ⟨k0, k1⟩ := hk
      obtain rfl : u4 = .bool true := k1
      go_wp2_with fail
      exact ⟨rfl, Ext.refl _, trivial⟩
    · obtain ⟨k0, k1, k2⟩ := hk
      obtain rfl : u4 = .bool true := k2
      go_wp2_with fail
      exact ⟨rfl, Ext.refl _, trivial⟩
    · obtain ⟨k0, k1⟩ := hk
      obtain rfl : u4 = .bool true := k0
      go_wp2_with fail
      exact ⟨rfl, Ext.refl _, by show (_ : Value) = _; first | rfl | simp⟩
  case last =>
    intro w1 he u0 h0 u1 h1 u2 h2 u3 h3 u4 h4 u5 h5 u6 h6 u7 h7 u8 h8 u9 h9 u10 h10 u11 h11 u12 h12
    obtain rfl : u12 = .bool true := h12
    clear h0 h1 h2 h3 h4 h5 h6 h7 h8 h9 h10 h11
    simp only [LastD, Act.put, List.setIfInBounds_toArray, List.set_cons_succ, List.set_cons_zero]
    have HE := Lib.hid ((Ext.alloc _ _).trans he)
    clear he
    go_wp2_with fail
    go_ret
    exact ⟨HE.out, rfl⟩

theorem fnExactUint64_walk (n0 : Bool) (v0 : Value) (ws0 : List Nat) (w : World) (hr0 : Rd .u64 w v0 ws0) (hl0 : ws0.length ≤ 17592186043904) :
    Calls Try.prog 6 #[.agg #[.bool n0, v0]] w (ValR (.bool true) w) := by
  cases hc : isU (ival n0 ws0)
  · exact fnExactUint64_walk_f n0 v0 ws0 w hr0 hl0 hc
  · exact fnExactUint64_walk_t n0 v0 ws0 w hr0 hl0 hc

end Go.Proofs.Ytcdkaddgljafhaa

