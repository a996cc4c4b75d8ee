/- laws.add, laws.sub, laws.signOf by values (printed by lawgen.py). -/
import Derived.Test.YtacmojhladdalaaImplAS
import Derived.Test.YtacmojhladdalaaHelpers
set_option linter.unusedSimpArgs false
set_option linter.unusedVariables false
namespace Go.Proofs.Ytacmojhladdalaa
open Go.RowKit

theorem implAdd_0 (L : Nat) (x y : Int) (Z X Y : Value) (w : World) (hZ : IsZ L 0 Z w) (hX : IsZ L x X w) (hY : IsZ L y Y w) (hL : L + 1 ≤ 17592186044416) :
    Calls Try.prog 19 #[.int .i64 0, Z, X, Y] w (ResR (IsT (L + 1) (x + y) x y) w) := by
  have h := implAdd_z 0 L 0 x y Z X Y w hZ hX hY hL
  rwa [show secZ 0 x y = y from rfl, show aftX 0 (x + y) x = x from rfl, show aftY 0 (x + y) y = y from rfl] at h

set_option maxHeartbeats 1000000 in
theorem add_z (L : Nat) (x y : Int) (x0 : Value) (x1 : Value) (w : World)  (hz0 : IsZ (L) (x) x0 w)  (hz1 : IsZ (L) (y) x1 w) (hL : L + 1 ≤ 17592186044416) :
    Calls Try.prog 26 #[x0, x1] w (ResR (IsC (L + 1) (x + y)) w) := by
  obtain ⟨n0, a0, l0, c0, rfl⟩ := hz0.form
  have HZ0 := Lib.hid hz0
  clear hz0
  obtain ⟨n1, a1, l1, c1, rfl⟩ := hz1.form
  have HZ1 := Lib.hid hz1
  clear hz1
  go_enter Try.func26, Try.ntmps26
  go_wp2_with fail
  refine wp_region_D preExt mixed [IsZ (0) (0), IsZ (L) (x), IsW (L) (x), IsZ (L) (y), IsW (L) (y), IsT ((L + 1)) (x + y) (x) (y), IsC ((L + 1)) (x + y), IsC ((L + 1)) (x + y)] (by kernel_rfl) ?mono rfl ?steps ?last
  case mono =>
    simp only [List.forall_mem_cons, List.not_mem_nil, false_implies, implies_true, and_true]
    refine ⟨?_, ?_, ?_, ?_, ?_, ?_, ?_, ?_⟩
    all_goals first | exact fun _ _ _ _ q => q | exact fun _ _ _ he q => q.ext he
  case steps =>
    refine ⟨?_, ?_, ?_, ?_, ?_, ?_, ?_, ?_, trivial⟩
    all_goals
      intro u0 u1 u2 u3 u4 u5 u6 u7 u8 w1 he hk
      simp [KnownD, Oper.looksAt, Op.operands, Call.operands, List.findIdx?_cons, Act.put] at hk
      simp only [Act.put, List.setIfInBounds_toArray, List.set_cons_succ, List.set_cons_zero]
    · go_wp2_with fail
      exact ⟨rfl, Ext.refl _, IsZ.zeroN _⟩
    · have hb := he.block ((Ext.alloc _ _).block ((Ext.alloc _ _).block (heap_alloc_new _ _)))
      have hc0 := blk_cell hb 0
      have hc1 := blk_cell hb 1
      simp at hc0 hc1
      clear hb
      go_wp2_with fail
      exact ⟨rfl, Ext.refl _, HZ0.out.ext ((((Ext.alloc _ _).trans (Ext.alloc _ _)).trans (Ext.alloc _ _)).trans he)⟩
    · have k0 := hk
      have H0 := Lib.hid k0
      clear k0
      go_wp2_with fail
      refine (toImpl_z (L) (x) _ _ (H0.out) (by omega)).mono ?_
      rintro e w2 ⟨he2, x, rfl, hx⟩
      have HX := Lib.hid hx
      clear hx
      go_wp2_with fail
      exact ⟨rfl, he2, HX.out⟩
    · have hb := he.block ((Ext.alloc _ _).block (heap_second _ _ _))
      have hc0 := blk_cell hb 0
      have hc1 := blk_cell hb 1
      simp at hc0 hc1
      clear hb
      go_wp2_with fail
      exact ⟨rfl, Ext.refl _, HZ1.out.ext ((((Ext.alloc _ _).trans (Ext.alloc _ _)).trans (Ext.alloc _ _)).trans he)⟩
    · have k0 := hk
      have H0 := Lib.hid k0
      clear k0
      go_wp2_with fail
      refine (toImpl_z (L) (y) _ _ (H0.out) (by omega)).mono ?_
      rintro e w2 ⟨he2, x, rfl, hx⟩
      have HX := Lib.hid hx
      clear hx
      go_wp2_with fail
      exact ⟨rfl, he2, HX.out⟩
    · obtain ⟨k0, k1, k2⟩ := hk
      have H1 := Lib.hid k0
      have H2 := Lib.hid k1
      have H3 := Lib.hid k2
      clear k0 k1 k2
      go_wp2_with fail
      refine (implAdd_0 L x y _ _ _ _ (H1.out.mono (by omega)) H2.out.z H3.out.z hL).mono ?_
      rintro e w2 ⟨he2, x, rfl, hx⟩
      have HX := Lib.hid hx
      clear hx
      go_wp2_with fail
      exact ⟨rfl, he2, HX.out⟩
    · have k0 := hk
      obtain ⟨m1, s1, m2, s2, m3, s3, rfl, t1, t2, t3⟩ := k0
      have hf := field_z m1 s1 m2 s2 m3 s3
      go_wp2_with fail
      exact ⟨rfl, Ext.refl _, t1⟩
    · have k0 := hk
      have H0 := Lib.hid k0
      clear k0
      go_wp2_with fail
      refine (fromImpl_z ((L + 1)) (x + y) _ _ H0.out).mono ?_
      rintro e w2 ⟨he2, x, rfl, hx⟩
      have HX := Lib.hid hx
      clear hx
      go_wp2_with fail
      exact ⟨rfl, he2, HX.out⟩
  case last =>
    intro w1 he u0 h0 u1 h1 u2 h2 u3 h3 u4 h4 u5 h5 u6 h6 u7 h7
    have hy : IsC (L + 1) (x + y) u7 w1 := h7
    clear h0 h1 h2 h3 h4 h5 h6 h7
    obtain ⟨m, aa, ll, cc, rfl⟩ := hy.form
    have hp : w1.heap[w.heap.size + 1 + 1]? = some (.cells #[.bool false, .slice none 0 0] 24 (0, 0)) := he.block (heap_third' _ _ _ _)
    have d0 := blk_cell hp 0
    have d1 := blk_cell hp 1
    have f0 := blk_free hp 0
    have f1 := blk_free hp 1
    simp at d0 d1
    have HP := Lib.hid hp
    have HY := Lib.hid hy
    have HE := Lib.hid ((((Ext.alloc _ _).trans (Ext.alloc _ _)).trans (Ext.alloc _ _)).trans he)
    clear hp hy he
    simp only [LastD, Act.put, List.setIfInBounds_toArray, List.set_cons_succ, List.set_cons_zero]
    go_wp2_with fail
    obtain ⟨e0, e1, hu⟩ := set2 HP.out (.bool m) (.slice aa ll cc)
    exact bodyPost_ret (results_laws rfl _ rfl e0 e1) rfl ⟨hu.ext HE.out (by omega), _, rfl, HY.out.upd HP.out (by decide) hu⟩


theorem implSub_0 (L : Nat) (x y : Int) (Z X Y : Value) (w : World) (hZ : IsZ L 0 Z w) (hX : IsZ L x X w) (hY : IsZ L y Y w) (hL : L + 1 ≤ 17592186044416) :
    Calls Try.prog 23 #[.int .i64 0, Z, X, Y] w (ResR (IsT (L + 1) (x - y) x y) w) := by
  have h := implSub_z 0 L 0 x y Z X Y w hZ hX hY hL
  rwa [show secZ 0 x y = y from rfl, show aftX 0 (x - y) x = x from rfl, show aftY 0 (x - y) y = y from rfl] at h

set_option maxHeartbeats 1000000 in
theorem sub_z (L : Nat) (x y : Int) (x0 : Value) (x1 : Value) (w : World)  (hz0 : IsZ (L) (x) x0 w)  (hz1 : IsZ (L) (y) x1 w) (hL : L + 1 ≤ 17592186044416) :
    Calls Try.prog 28 #[x0, x1] w (ResR (IsC (L + 1) (x - y)) w) := by
  obtain ⟨n0, a0, l0, c0, rfl⟩ := hz0.form
  have HZ0 := Lib.hid hz0
  clear hz0
  obtain ⟨n1, a1, l1, c1, rfl⟩ := hz1.form
  have HZ1 := Lib.hid hz1
  clear hz1
  go_enter Try.func28, Try.ntmps28
  go_wp2_with fail
  refine wp_region_D preExt mixed [IsZ (0) (0), IsZ (L) (x), IsW (L) (x), IsZ (L) (y), IsW (L) (y), IsT ((L + 1)) (x - y) (x) (y), IsC ((L + 1)) (x - y), IsC ((L + 1)) (x - y)] (by kernel_rfl) ?mono rfl ?steps ?last
  case mono =>
    simp only [List.forall_mem_cons, List.not_mem_nil, false_implies, implies_true, and_true]
    refine ⟨?_, ?_, ?_, ?_, ?_, ?_, ?_, ?_⟩
    all_goals first | exact fun _ _ _ _ q => q | exact fun _ _ _ he q => q.ext he
  case steps =>
    refine ⟨?_, ?_, ?_, ?_, ?_, ?_, ?_, ?_, trivial⟩
    all_goals
      intro u0 u1 u2 u3 u4 u5 u6 u7 u8 w1 he hk
      simp [KnownD, Oper.looksAt, Op.operands, Call.operands, List.findIdx?_cons, Act.put] at hk
      simp only [Act.put, List.setIfInBounds_toArray, List.set_cons_succ, List.set_cons_zero]
    · go_wp2_with fail
      exact ⟨rfl, Ext.refl _, IsZ.zeroN _⟩
    · have hb := he.block ((Ext.alloc _ _).block ((Ext.alloc _ _).block (heap_alloc_new _ _)))
      have hc0 := blk_cell hb 0
      have hc1 := blk_cell hb 1
      simp at hc0 hc1
      clear hb
      go_wp2_with fail
      exact ⟨rfl, Ext.refl _, HZ0.out.ext ((((Ext.alloc _ _).trans (Ext.alloc _ _)).trans (Ext.alloc _ _)).trans he)⟩
    · have k0 := hk
      have H0 := Lib.hid k0
      clear k0
      go_wp2_with fail
      refine (toImpl_z (L) (x) _ _ (H0.out) (by omega)).mono ?_
      rintro e w2 ⟨he2, x, rfl, hx⟩
      have HX := Lib.hid hx
      clear hx
      go_wp2_with fail
      exact ⟨rfl, he2, HX.out⟩
    · have hb := he.block ((Ext.alloc _ _).block (heap_second _ _ _))
      have hc0 := blk_cell hb 0
      have hc1 := blk_cell hb 1
      simp at hc0 hc1
      clear hb
      go_wp2_with fail
      exact ⟨rfl, Ext.refl _, HZ1.out.ext ((((Ext.alloc _ _).trans (Ext.alloc _ _)).trans (Ext.alloc _ _)).trans he)⟩
    · have k0 := hk
      have H0 := Lib.hid k0
      clear k0
      go_wp2_with fail
      refine (toImpl_z (L) (y) _ _ (H0.out) (by omega)).mono ?_
      rintro e w2 ⟨he2, x, rfl, hx⟩
      have HX := Lib.hid hx
      clear hx
      go_wp2_with fail
      exact ⟨rfl, he2, HX.out⟩
    · obtain ⟨k0, k1, k2⟩ := hk
      have H1 := Lib.hid k0
      have H2 := Lib.hid k1
      have H3 := Lib.hid k2
      clear k0 k1 k2
      go_wp2_with fail
      refine (implSub_0 L x y _ _ _ _ (H1.out.mono (by omega)) H2.out.z H3.out.z hL).mono ?_
      rintro e w2 ⟨he2, x, rfl, hx⟩
      have HX := Lib.hid hx
      clear hx
      go_wp2_with fail
      exact ⟨rfl, he2, HX.out⟩
    · have k0 := hk
      obtain ⟨m1, s1, m2, s2, m3, s3, rfl, t1, t2, t3⟩ := k0
      have hf := field_z m1 s1 m2 s2 m3 s3
      go_wp2_with fail
      exact ⟨rfl, Ext.refl _, t1⟩
    · have k0 := hk
      have H0 := Lib.hid k0
      clear k0
      go_wp2_with fail
      refine (fromImpl_z ((L + 1)) (x - y) _ _ H0.out).mono ?_
      rintro e w2 ⟨he2, x, rfl, hx⟩
      have HX := Lib.hid hx
      clear hx
      go_wp2_with fail
      exact ⟨rfl, he2, HX.out⟩
  case last =>
    intro w1 he u0 h0 u1 h1 u2 h2 u3 h3 u4 h4 u5 h5 u6 h6 u7 h7
    have hy : IsC (L + 1) (x - y) u7 w1 := h7
    clear h0 h1 h2 h3 h4 h5 h6 h7
    obtain ⟨m, aa, ll, cc, rfl⟩ := hy.form
    have hp : w1.heap[w.heap.size + 1 + 1]? = some (.cells #[.bool false, .slice none 0 0] 24 (0, 0)) := he.block (heap_third' _ _ _ _)
    have d0 := blk_cell hp 0
    have d1 := blk_cell hp 1
    have f0 := blk_free hp 0
    have f1 := blk_free hp 1
    simp at d0 d1
    have HP := Lib.hid hp
    have HY := Lib.hid hy
    have HE := Lib.hid ((((Ext.alloc _ _).trans (Ext.alloc _ _)).trans (Ext.alloc _ _)).trans he)
    clear hp hy he
    simp only [LastD, Act.put, List.setIfInBounds_toArray, List.set_cons_succ, List.set_cons_zero]
    go_wp2_with fail
    obtain ⟨e0, e1, hu⟩ := set2 HP.out (.bool m) (.slice aa ll cc)
    exact bodyPost_ret (results_laws rfl _ rfl e0 e1) rfl ⟨hu.ext HE.out (by omega), _, rfl, HY.out.upd HP.out (by decide) hu⟩


set_option maxHeartbeats 1000000 in
theorem signOf_z (L : Nat) (z : Int) (x0 : Value) (w : World) (hz0 : IsZ (L) (z) x0 w) (hL : L ≤ 17592186044416) :
    Calls Try.prog 34 #[x0] w (ResR (Is (.int .i64 (sgnZ z))) w) := by
  obtain ⟨n0, a0, l0, c0, rfl⟩ := hz0.form
  have HZ0 := Lib.hid hz0
  clear hz0
  go_enter Try.func34, Try.ntmps34
  go_wp2_with fail
  refine (toSpec_z (L) (z) _ _ ((HZ0.out.ext (Ext.alloc _ _))) (by omega)).mono ?_
  rintro e w1 ⟨he, y1, rfl, hy⟩
  have HB := Lib.hid he
  have HE := Lib.hid ((Ext.alloc _ _).trans he)
  clear he
  have HY1 := Lib.hid hy
  clear hy
  have hcc := fun a v h => Ext.cell HB.out (a := a) (v := v) h
  go_wp2_with fail
  refine (specSign_z (L) (z) _ _ (HY1.out.z) (by omega)).mono ?_
  clear hcc
  rintro e w2 ⟨he, y2, rfl, hy⟩
  replace HY1 := Lib.hid (HY1.out.ext he)
  replace HB := Lib.hid (HB.out.trans he)
  replace HE := Lib.hid (HE.out.trans he)
  clear he
  obtain rfl : y2 = .int .i64 (sgnZ (z)) := hy
  go_wp2_with fail
  go_ret
  exact ⟨HE.out, _, rfl, rfl⟩

end Go.Proofs.Ytacmojhladdalaa

