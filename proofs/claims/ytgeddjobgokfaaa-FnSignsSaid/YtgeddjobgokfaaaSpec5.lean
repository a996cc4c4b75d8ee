/- spec.IsInt64 by values (printed by lawgen.py). -/
import Derived.Test.YtgeddjobgokfaaaSpec4
set_option linter.unusedSimpArgs false
set_option linter.unusedVariables false
namespace Go.Proofs.Ytgeddjobgokfaaa
open Go.RowKit

/-- A slice that reads as words. -/
def IsR (ws : List Nat) (x : Value) (w : World) : Prop := Rd .u64 w x ws

theorem IsR.ext {ws : List Nat} {x : Value} {w w' : World} (h : IsR ws x w) (he : Ext w w') : IsR ws x w' := Rd.ext h he

theorem rd_one (w : World) (x : Nat) (hx : x < 18446744073709551616) : Rd .u64 (w.alloc (.cells #[.int .u64 (x : Nat)] 68)) (.slice (some ⟨w.heap.size, 0, none⟩) 1 1) [x] := by
  refine ⟨by simpa [lim] using hx, _, 1, rfl, by simp, by simp, by simp, fun i hi => ⟨_, _, rfl, ?_⟩⟩
  simp at hi
  subst hi
  rw [blk_cell (heap_alloc_new _ _)]
  rfl

theorem specInteger_c (n : Bool) (ws : List Nat) (z : Int) (v : Value) (w : World) (h : IsR ws v w) (hz : ival n ws = z) (hl : ws.length ≤ 1) :
    Calls Try.prog 41 #[.bool n, v] w (ResR (IsC 1 z) w) := by
  subst hz
  exact (specInteger_any n v ws w h (by omega)).mono fun e w' h => numC_of 1 hl h

theorem leZ_lo {z : Int} (h : -9223372036854775808 ≤ z) : decide (cmpZ (-9223372036854775808) z ≤ 0) = true := by
  refine decide_eq_true ?_
  unfold cmpZ; split <;> first | omega | (split <;> omega)

theorem leZ_hi {z : Int} (h : z ≤ 9223372036854775807) : decide (cmpZ z 9223372036854775807 ≤ 0) = true := by
  refine decide_eq_true ?_
  unfold cmpZ; split <;> first | omega | (split <;> omega)

theorem gtZ_lo {z : Int} (h : z < -9223372036854775808) : decide (cmpZ (-9223372036854775808) z ≤ 0) = false := by
  refine decide_eq_false ?_
  unfold cmpZ; split <;> first | omega | (split <;> omega)

theorem gtZ_hi {z : Int} (h : 9223372036854775807 < z) : decide (cmpZ z 9223372036854775807 ≤ 0) = false := by
  refine decide_eq_false ?_
  unfold cmpZ; split <;> first | omega | (split <;> omega)

set_option maxHeartbeats 1000000 in
theorem specIsInt64_tt (L : Nat) (z : Int) (x0 : Value) (w : World)  (hz0 : IsZ (L) (z) x0 w) (hL : L ≤ 17592186044416) (hc : -9223372036854775808 ≤ z ∧ z ≤ 9223372036854775807) :
    Calls Try.prog 31 #[x0] w (ResR (Is (.bool true)) w) := by
  obtain ⟨n0, a0, l0, c0, rfl⟩ := hz0.form
  have HZ0 := Lib.hid hz0
  clear hz0
  have HC := Lib.hid hc
  clear hc
  go_enter Try.func31, Try.ntmps31
  go_wp2_with fail
  refine wp_region_D preExt mixed [IsR ([9223372036854775808]), IsC (1) (-9223372036854775808), IsZ (L) (z), Is (.int .i64 (cmpZ (-9223372036854775808) (z))), Is (.bool true), Is (.bool true), IsZ (L) (z), IsR ([9223372036854775807]), IsC (1) (9223372036854775807), Is (.int .i64 (cmpZ (z) (9223372036854775807))), Is (.bool true), Is (.bool true)] (by kernel_rfl) ?mono rfl ?steps ?last
  case mono =>
    simp only [List.forall_mem_cons, List.not_mem_nil, false_implies, implies_true, and_true]
    refine ⟨?_, ?_, ?_, ?_, ?_, ?_, ?_, ?_, ?_, ?_, ?_, ?_⟩
    all_goals first | exact fun _ _ _ _ q => q | exact fun _ _ _ he q => q.ext he
  case steps =>
    refine ⟨?_, ?_, ?_, ?_, ?_, ?_, ?_, ?_, ?_, ?_, ?_, ?_, trivial⟩
    all_goals
      intro u0 u1 u2 u3 u4 u5 u6 u7 u8 u9 u10 u11 u12 w1 he hk
      simp [KnownD, Oper.looksAt, Op.operands, Call.operands, List.findIdx?_cons, Act.put] at hk
      simp only [Act.put, List.setIfInBounds_toArray, List.set_cons_succ, List.set_cons_zero]
    · go_wp2_with fail
      exact ⟨rfl, Ext.alloc _ _, rd_one _ _ (by decide)⟩
    · have k0 := hk
      have H1 := Lib.hid k0
      clear k0
      go_wp2_with fail
      refine (specInteger_c true ([9223372036854775808]) (-9223372036854775808) _ _ H1.out (by simp [ival, val]) (by simp)).mono ?_
      rintro e w2 ⟨he2, x, rfl, hx⟩
      have HX := Lib.hid hx
      clear hx
      go_wp2_with fail
      exact ⟨rfl, he2, HX.out⟩
    · have hc := fun a v h => Ext.cell he (a := a) (v := v) h
      go_wp2_with fail
      exact ⟨rfl, Ext.refl _, HZ0.out.ext ((Ext.alloc _ _).trans he)⟩
    · obtain ⟨k0, k1⟩ := hk
      have H0 := Lib.hid k0
      have H1 := Lib.hid k1
      clear k0 k1
      go_wp2_with fail
      refine (specCmp_z (1) (L) (-9223372036854775808) (z) _ _ _ (H0.out.z) (H1.out) (by omega) (by omega)).mono ?_
      rintro e w2 ⟨he2, x, rfl, hx⟩
      obtain rfl : x = .int .i64 (cmpZ (-9223372036854775808) (z)) := hx
      go_wp2_with fail
      exact ⟨rfl, he2, rfl⟩
    · have k0 := hk
      obtain rfl : u3 = .int .i64 (cmpZ (-9223372036854775808) (z)) := k0
      go_wp2_with fail
      exact ⟨rfl, Ext.refl _, by show (_ : Value) = _; (simp only [leZ_lo HC.out.1]); try rfl⟩
    · have k0 := hk
      obtain rfl : u4 = .bool true := k0
      go_wp2_with fail
      exact ⟨rfl, Ext.refl _, by show (_ : Value) = _; (first | rfl | simp); try rfl⟩
    · have k0 := hk
      obtain rfl : u5 = .bool true := k0
      have hc := fun a v h => Ext.cell he (a := a) (v := v) h
      go_wp2_with fail
      exact ⟨rfl, Ext.refl _, HZ0.out.ext ((Ext.alloc _ _).trans he)⟩
    · have k0 := hk
      obtain rfl : u5 = .bool true := k0
      go_wp2_with fail
      exact ⟨rfl, Ext.alloc _ _, rd_one _ _ (by decide)⟩
    · obtain ⟨k0, k1⟩ := hk
      obtain rfl : u5 = .bool true := k1
      have H1 := Lib.hid k0
      clear k0
      go_wp2_with fail
      refine (specInteger_c false ([9223372036854775807]) (9223372036854775807) _ _ H1.out (by simp [ival, val]) (by simp)).mono ?_
      rintro e w2 ⟨he2, x, rfl, hx⟩
      have HX := Lib.hid hx
      clear hx
      go_wp2_with fail
      exact ⟨rfl, he2, HX.out⟩
    · obtain ⟨k0, k1, k2⟩ := hk
      obtain rfl : u5 = .bool true := k2
      have H0 := Lib.hid k0
      have H1 := Lib.hid k1
      clear k0 k1
      go_wp2_with fail
      refine (specCmp_z (L) (1) (z) (9223372036854775807) _ _ _ (H0.out) (H1.out.z) (by omega) (by omega)).mono ?_
      rintro e w2 ⟨he2, x, rfl, hx⟩
      obtain rfl : x = .int .i64 (cmpZ (z) (9223372036854775807)) := hx
      go_wp2_with fail
      exact ⟨rfl, he2, rfl⟩
    · obtain ⟨k0, k1⟩ := hk
      obtain rfl : u9 = .int .i64 (cmpZ (z) (9223372036854775807)) := k0
      obtain rfl : u5 = .bool true := k1
      go_wp2_with fail
      exact ⟨rfl, Ext.refl _, by show (_ : Value) = _; (simp only [leZ_hi HC.out.2]); try rfl⟩
    · obtain ⟨k0, k1⟩ := hk
      obtain rfl : u5 = .bool true := k0
      obtain rfl : u10 = .bool true := k1
      go_wp2_with fail
      exact ⟨rfl, Ext.refl _, by show (_ : Value) = _; (first | rfl | simp); try rfl⟩
  case last =>
    intro w1 he u0 h0 u1 h1 u2 h2 u3 h3 u4 h4 u5 h5 u6 h6 u7 h7 u8 h8 u9 h9 u10 h10 u11 h11
    obtain rfl : u11 = .bool true := h11
    clear h0 h1 h2 h3 h4 h5 h6 h7 h8 h9 h10
    simp only [LastD, Act.put, List.setIfInBounds_toArray, List.set_cons_succ, List.set_cons_zero]
    have HE := Lib.hid ((Ext.alloc _ _).trans he)
    clear he
    go_wp2_with fail
    go_ret
    exact ⟨HE.out, _, rfl, rfl⟩

set_option maxHeartbeats 1000000 in
theorem specIsInt64_ff (L : Nat) (z : Int) (x0 : Value) (w : World)  (hz0 : IsZ (L) (z) x0 w) (hL : L ≤ 17592186044416) (hc : z < -9223372036854775808) :
    Calls Try.prog 31 #[x0] w (ResR (Is (.bool false)) w) := by
  obtain ⟨n0, a0, l0, c0, rfl⟩ := hz0.form
  have HZ0 := Lib.hid hz0
  clear hz0
  have HC := Lib.hid hc
  clear hc
  go_enter Try.func31, Try.ntmps31
  go_wp2_with fail
  refine wp_region_D preExt mixed [IsR ([9223372036854775808]), IsC (1) (-9223372036854775808), IsZ (L) (z), Is (.int .i64 (cmpZ (-9223372036854775808) (z))), Is (.bool false), Is (.bool false), Any, Any, Any, Any, Any, Is (.bool false)] (by kernel_rfl) ?mono rfl ?steps ?last
  case mono =>
    simp only [List.forall_mem_cons, List.not_mem_nil, false_implies, implies_true, and_true]
    refine ⟨?_, ?_, ?_, ?_, ?_, ?_, ?_, ?_, ?_, ?_, ?_, ?_⟩
    all_goals first | exact fun _ _ _ _ q => q | exact fun _ _ _ he q => q.ext he
  case steps =>
    refine ⟨?_, ?_, ?_, ?_, ?_, ?_, ?_, ?_, ?_, ?_, ?_, ?_, trivial⟩
    all_goals
      intro u0 u1 u2 u3 u4 u5 u6 u7 u8 u9 u10 u11 u12 w1 he hk
      simp [KnownD, Oper.looksAt, Op.operands, Call.operands, List.findIdx?_cons, Act.put] at hk
      simp only [Act.put, List.setIfInBounds_toArray, List.set_cons_succ, List.set_cons_zero]
    · go_wp2_with fail
      exact ⟨rfl, Ext.alloc _ _, rd_one _ _ (by decide)⟩
    · have k0 := hk
      have H1 := Lib.hid k0
      clear k0
      go_wp2_with fail
      refine (specInteger_c true ([9223372036854775808]) (-9223372036854775808) _ _ H1.out (by simp [ival, val]) (by simp)).mono ?_
      rintro e w2 ⟨he2, x, rfl, hx⟩
      have HX := Lib.hid hx
      clear hx
      go_wp2_with fail
      exact ⟨rfl, he2, HX.out⟩
    · have hc := fun a v h => Ext.cell he (a := a) (v := v) h
      go_wp2_with fail
      exact ⟨rfl, Ext.refl _, HZ0.out.ext ((Ext.alloc _ _).trans he)⟩
    · obtain ⟨k0, k1⟩ := hk
      have H0 := Lib.hid k0
      have H1 := Lib.hid k1
      clear k0 k1
      go_wp2_with fail
      refine (specCmp_z (1) (L) (-9223372036854775808) (z) _ _ _ (H0.out.z) (H1.out) (by omega) (by omega)).mono ?_
      rintro e w2 ⟨he2, x, rfl, hx⟩
      obtain rfl : x = .int .i64 (cmpZ (-9223372036854775808) (z)) := hx
      go_wp2_with fail
      exact ⟨rfl, he2, rfl⟩
    · have k0 := hk
      obtain rfl : u3 = .int .i64 (cmpZ (-9223372036854775808) (z)) := k0
      go_wp2_with fail
      exact ⟨rfl, Ext.refl _, by show (_ : Value) = _; (simp only [gtZ_lo HC.out]); try rfl⟩
    · have k0 := hk
      obtain rfl : u4 = .bool false := k0
      go_wp2_with fail
      exact ⟨rfl, Ext.refl _, by show (_ : Value) = _; (first | rfl | simp); try rfl⟩
    · have k0 := hk
      obtain rfl : u5 = .bool false := k0
      go_wp2_with fail
      exact ⟨rfl, Ext.refl _, trivial⟩
    · have k0 := hk
      obtain rfl : u5 = .bool false := k0
      go_wp2_with fail
      exact ⟨rfl, Ext.refl _, trivial⟩
    · obtain ⟨k0, k1⟩ := hk
      obtain rfl : u5 = .bool false := k1
      go_wp2_with fail
      exact ⟨rfl, Ext.refl _, trivial⟩
    · obtain ⟨k0, k1, k2⟩ := hk
      obtain rfl : u5 = .bool false := k2
      go_wp2_with fail
      exact ⟨rfl, Ext.refl _, trivial⟩
    · obtain ⟨k0, k1⟩ := hk
      obtain rfl : u5 = .bool false := k1
      go_wp2_with fail
      exact ⟨rfl, Ext.refl _, trivial⟩
    · obtain ⟨k0, k1⟩ := hk
      obtain rfl : u5 = .bool false := k0
      go_wp2_with fail
      exact ⟨rfl, Ext.refl _, by show (_ : Value) = _; (first | rfl | simp); try rfl⟩
  case last =>
    intro w1 he u0 h0 u1 h1 u2 h2 u3 h3 u4 h4 u5 h5 u6 h6 u7 h7 u8 h8 u9 h9 u10 h10 u11 h11
    obtain rfl : u11 = .bool false := h11
    clear h0 h1 h2 h3 h4 h5 h6 h7 h8 h9 h10
    simp only [LastD, Act.put, List.setIfInBounds_toArray, List.set_cons_succ, List.set_cons_zero]
    have HE := Lib.hid ((Ext.alloc _ _).trans he)
    clear he
    go_wp2_with fail
    go_ret
    exact ⟨HE.out, _, rfl, rfl⟩

set_option maxHeartbeats 1000000 in
theorem specIsInt64_tf (L : Nat) (z : Int) (x0 : Value) (w : World)  (hz0 : IsZ (L) (z) x0 w) (hL : L ≤ 17592186044416) (hc : -9223372036854775808 ≤ z ∧ 9223372036854775807 < z) :
    Calls Try.prog 31 #[x0] w (ResR (Is (.bool false)) w) := by
  obtain ⟨n0, a0, l0, c0, rfl⟩ := hz0.form
  have HZ0 := Lib.hid hz0
  clear hz0
  have HC := Lib.hid hc
  clear hc
  go_enter Try.func31, Try.ntmps31
  go_wp2_with fail
  refine wp_region_D preExt mixed [IsR ([9223372036854775808]), IsC (1) (-9223372036854775808), IsZ (L) (z), Is (.int .i64 (cmpZ (-9223372036854775808) (z))), Is (.bool true), Is (.bool true), IsZ (L) (z), IsR ([9223372036854775807]), IsC (1) (9223372036854775807), Is (.int .i64 (cmpZ (z) (9223372036854775807))), Is (.bool false), Is (.bool false)] (by kernel_rfl) ?mono rfl ?steps ?last
  case mono =>
    simp only [List.forall_mem_cons, List.not_mem_nil, false_implies, implies_true, and_true]
    refine ⟨?_, ?_, ?_, ?_, ?_, ?_, ?_, ?_, ?_, ?_, ?_, ?_⟩
    all_goals first | exact fun _ _ _ _ q => q | exact fun _ _ _ he q => q.ext he
  case steps =>
    refine ⟨?_, ?_, ?_, ?_, ?_, ?_, ?_, ?_, ?_, ?_, ?_, ?_, trivial⟩
    all_goals
      intro u0 u1 u2 u3 u4 u5 u6 u7 u8 u9 u10 u11 u12 w1 he hk
      simp [KnownD, Oper.looksAt, Op.operands, Call.operands, List.findIdx?_cons, Act.put] at hk
      simp only [Act.put, List.setIfInBounds_toArray, List.set_cons_succ, List.set_cons_zero]
    · go_wp2_with fail
      exact ⟨rfl, Ext.alloc _ _, rd_one _ _ (by decide)⟩
    · have k0 := hk
      have H1 := Lib.hid k0
      clear k0
      go_wp2_with fail
      refine (specInteger_c true ([9223372036854775808]) (-9223372036854775808) _ _ H1.out (by simp [ival, val]) (by simp)).mono ?_
      rintro e w2 ⟨he2, x, rfl, hx⟩
      have HX := Lib.hid hx
      clear hx
      go_wp2_with fail
      exact ⟨rfl, he2, HX.out⟩
    · have hc := fun a v h => Ext.cell he (a := a) (v := v) h
      go_wp2_with fail
      exact ⟨rfl, Ext.refl _, HZ0.out.ext ((Ext.alloc _ _).trans he)⟩
    · obtain ⟨k0, k1⟩ := hk
      have H0 := Lib.hid k0
      have H1 := Lib.hid k1
      clear k0 k1
      go_wp2_with fail
      refine (specCmp_z (1) (L) (-9223372036854775808) (z) _ _ _ (H0.out.z) (H1.out) (by omega) (by omega)).mono ?_
      rintro e w2 ⟨he2, x, rfl, hx⟩
      obtain rfl : x = .int .i64 (cmpZ (-9223372036854775808) (z)) := hx
      go_wp2_with fail
      exact ⟨rfl, he2, rfl⟩
    · have k0 := hk
      obtain rfl : u3 = .int .i64 (cmpZ (-9223372036854775808) (z)) := k0
      go_wp2_with fail
      exact ⟨rfl, Ext.refl _, by show (_ : Value) = _; (simp only [leZ_lo HC.out.1]); try rfl⟩
    · have k0 := hk
      obtain rfl : u4 = .bool true := k0
      go_wp2_with fail
      exact ⟨rfl, Ext.refl _, by show (_ : Value) = _; (first | rfl | simp); try rfl⟩
    · have k0 := hk
      obtain rfl : u5 = .bool true := k0
      have hc := fun a v h => Ext.cell he (a := a) (v := v) h
      go_wp2_with fail
      exact ⟨rfl, Ext.refl _, HZ0.out.ext ((Ext.alloc _ _).trans he)⟩
    · have k0 := hk
      obtain rfl : u5 = .bool true := k0
      go_wp2_with fail
      exact ⟨rfl, Ext.alloc _ _, rd_one _ _ (by decide)⟩
    · obtain ⟨k0, k1⟩ := hk
      obtain rfl : u5 = .bool true := k1
      have H1 := Lib.hid k0
      clear k0
      go_wp2_with fail
      refine (specInteger_c false ([9223372036854775807]) (9223372036854775807) _ _ H1.out (by simp [ival, val]) (by simp)).mono ?_
      rintro e w2 ⟨he2, x, rfl, hx⟩
      have HX := Lib.hid hx
      clear hx
      go_wp2_with fail
      exact ⟨rfl, he2, HX.out⟩
    · obtain ⟨k0, k1, k2⟩ := hk
      obtain rfl : u5 = .bool true := k2
      have H0 := Lib.hid k0
      have H1 := Lib.hid k1
      clear k0 k1
      go_wp2_with fail
      refine (specCmp_z (L) (1) (z) (9223372036854775807) _ _ _ (H0.out) (H1.out.z) (by omega) (by omega)).mono ?_
      rintro e w2 ⟨he2, x, rfl, hx⟩
      obtain rfl : x = .int .i64 (cmpZ (z) (9223372036854775807)) := hx
      go_wp2_with fail
      exact ⟨rfl, he2, rfl⟩
    · obtain ⟨k0, k1⟩ := hk
      obtain rfl : u9 = .int .i64 (cmpZ (z) (9223372036854775807)) := k0
      obtain rfl : u5 = .bool true := k1
      go_wp2_with fail
      exact ⟨rfl, Ext.refl _, by show (_ : Value) = _; (simp only [gtZ_hi HC.out.2]); try rfl⟩
    · obtain ⟨k0, k1⟩ := hk
      obtain rfl : u5 = .bool true := k0
      obtain rfl : u10 = .bool false := k1
      go_wp2_with fail
      exact ⟨rfl, Ext.refl _, by show (_ : Value) = _; (first | rfl | simp); try rfl⟩
  case last =>
    intro w1 he u0 h0 u1 h1 u2 h2 u3 h3 u4 h4 u5 h5 u6 h6 u7 h7 u8 h8 u9 h9 u10 h10 u11 h11
    obtain rfl : u11 = .bool false := h11
    clear h0 h1 h2 h3 h4 h5 h6 h7 h8 h9 h10
    simp only [LastD, Act.put, List.setIfInBounds_toArray, List.set_cons_succ, List.set_cons_zero]
    have HE := Lib.hid ((Ext.alloc _ _).trans he)
    clear he
    go_wp2_with fail
    go_ret
    exact ⟨HE.out, _, rfl, rfl⟩

theorem specIsInt64_z (L : Nat) (z : Int) (x : Value) (w : World) (h : IsZ L z x w) (hL : L ≤ 17592186044416) :
    Calls Try.prog 31 #[x] w (ResR (Is (.bool (isI z))) w) := by
  by_cases h1 : -9223372036854775808 ≤ z
  · by_cases h2 : z ≤ 9223372036854775807
    · rw [show isI z = true from decide_eq_true (by omega)]
      exact specIsInt64_tt L z x w h hL ⟨h1, h2⟩
    · rw [show isI z = false from decide_eq_false (by omega)]
      exact specIsInt64_tf L z x w h hL ⟨h1, by omega⟩
  · rw [show isI z = false from decide_eq_false (by omega)]
    exact specIsInt64_ff L z x w h hL (by omega)

end Go.Proofs.Ytgeddjobgokfaaa

