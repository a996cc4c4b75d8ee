/- laws.told (printed by lawgen.py). -/
import Derived.Test.YtacmojhladdalaaImplNA
import Derived.Test.YtacmojhladdalaaCmp3
set_option linter.unusedSimpArgs false
set_option linter.unusedVariables false
namespace Go.Proofs.Ytacmojhladdalaa
open Go.RowKit

theorem six (w : World) (o0 o1 o2 o3 o4 o5 : Obj) : Ext w ((((((w.alloc o0).alloc o1).alloc o2).alloc o3).alloc o4).alloc o5) ∧ ((((((w.alloc o0).alloc o1).alloc o2).alloc o3).alloc o4).alloc o5).heap[w.heap.size]? = some o0 ∧ ((((((w.alloc o0).alloc o1).alloc o2).alloc o3).alloc o4).alloc o5).heap[w.heap.size + 1 + 1 + 1]? = some o3 ∧ ((((((w.alloc o0).alloc o1).alloc o2).alloc o3).alloc o4).alloc o5).heap[w.heap.size + 1 + 1 + 1 + 1]? = some o4 ∧ ((((((w.alloc o0).alloc o1).alloc o2).alloc o3).alloc o4).alloc o5).heap[w.heap.size + 1 + 1 + 1 + 1 + 1]? = some o5 := by
  refine ⟨((((((Ext.alloc _ _).trans (Ext.alloc _ _)).trans (Ext.alloc _ _)).trans (Ext.alloc _ _)).trans (Ext.alloc _ _)).trans (Ext.alloc _ _)), ?_, ?_, ?_, ?_⟩
  · exact (Ext.alloc _ _).block ((Ext.alloc _ _).block ((Ext.alloc _ _).block ((Ext.alloc _ _).block ((Ext.alloc _ _).block (heap_alloc_new _ _)))))
  · exact (Ext.alloc _ _).block ((Ext.alloc _ _).block (heap_fourth _ _ _ _ _))
  · have h := heap_second (((w.alloc o0).alloc o1).alloc o2) o3 o4
    rw [show (((w.alloc o0).alloc o1).alloc o2).heap.size = w.heap.size + 1 + 1 + 1 by simp] at h
    exact (Ext.alloc _ _).block h
  · have h := heap_second ((((w.alloc o0).alloc o1).alloc o2).alloc o3) o4 o5
    rw [show ((((w.alloc o0).alloc o1).alloc o2).alloc o3).heap.size = w.heap.size + 1 + 1 + 1 + 1 by simp] at h
    exact h

set_option maxHeartbeats 1000000 in
theorem told_0 (k : Int) (L Lx Ly Lw : Nat) (x y z : Int) (t X Y Z : Value) (w : World) (hT : IsT L z x y t w) (hX : IsZ Lx x X w) (hY : IsZ Ly y Y w) (hZ : IsZ Lw z Z w)
    (hL : L ≤ 17592186044416) (hLx : Lx ≤ 17592186044416) (hLy : Ly ≤ 17592186044416) (hLw : Lw ≤ 17592186044416) (b1 : (k == 1) = false) (b2 : (k == 2) = false) (b3 : (k == 3) = false) (b4 : (k == 4) = false) :
    Calls Try.prog 18 #[t, .int .i64 k, X, Y, Z] w (ResR (Is (.bool true)) w) := by
  obtain ⟨n1, a1, l1, c1, rfl⟩ := hX.form
  obtain ⟨n2, a2, l2, c2, rfl⟩ := hY.form
  obtain ⟨n3, a3, l3, c3, rfl⟩ := hZ.form
  obtain ⟨m1, s1, m2, s2, m3, s3, rfl, t1, t2, t3⟩ := hT
  have HX := Lib.hid hX
  have HY := Lib.hid hY
  have HZ := Lib.hid hZ
  have HT1 := Lib.hid t1
  have HT2 := Lib.hid t2
  have HT3 := Lib.hid t3
  clear hX hY hZ t1 t2 t3
  go_enter Try.func18, Try.ntmps18
  go_wp2_with fail
  have hsix := six w (.cells #[m1, s1, m2, s2, m3, s3] 32) (.cells #[.bool n1, .slice a1 l1 c1] 24) (.cells #[.bool n2, .slice a2 l2 c2] 24) (.cells #[.bool n3, .slice a3 l3 c3] 24) (.cells #[.bool n1, .slice a1 l1 c1] 24) (.cells #[.bool n2, .slice a2 l2 c2] 24)
  generalize ((((((w.alloc (.cells #[m1, s1, m2, s2, m3, s3] 32)).alloc (.cells #[.bool n1, .slice a1 l1 c1] 24)).alloc (.cells #[.bool n2, .slice a2 l2 c2] 24)).alloc (.cells #[.bool n3, .slice a3 l3 c3] 24)).alloc (.cells #[.bool n1, .slice a1 l1 c1] 24)).alloc (.cells #[.bool n2, .slice a2 l2 c2] 24)) = w6 at *
  obtain ⟨hE, g0, g3, g4, g5⟩ := hsix
  have HE0 := Lib.hid hE
  have G0 := Lib.hid g0
  have G3 := Lib.hid g3
  have G4 := Lib.hid g4
  have G5 := Lib.hid g5
  clear hE g0 g3 g4 g5
  refine wp_region_D preExt mixed [Is (.pointer (some ⟨w.heap.size, 0, none⟩)), IsC (L) (z), IsC (L) (z), IsZ (Lw) (z), Is (.bool true), Is (.bool true), Is (.pointer (some ⟨w.heap.size, 2, none⟩)), IsC (L) (x), IsC (L) (x), IsZ (Lx) (x), Is (.bool true), Is (.bool true), Is (.bool true), Is (.pointer (some ⟨w.heap.size, 4, none⟩)), IsC (L) (y), IsC (L) (y), IsZ (Ly) (y), Is (.bool true), Is (.bool true)] (by kernel_rfl) ?mono rfl ?steps ?last
  case mono =>
    simp only [List.forall_mem_cons, List.not_mem_nil, false_implies, implies_true, and_true]
    refine ⟨?_, ?_, ?_, ?_, ?_, ?_, ?_, ?_, ?_, ?_, ?_, ?_, ?_, ?_, ?_, ?_, ?_, ?_, ?_⟩
    all_goals first | exact fun _ _ _ _ q => q | exact fun _ _ _ he q => q.ext he
  case steps =>
    refine ⟨?_, ?_, ?_, ?_, ?_, ?_, ?_, ?_, ?_, ?_, ?_, ?_, ?_, ?_, ?_, ?_, ?_, ?_, ?_, trivial⟩
    all_goals
      intro u0 u1 u2 u3 u4 u5 u6 u7 u8 u9 u10 u11 u12 u13 u14 u15 u16 u17 u18 u19 w1 he hk
      simp [KnownD, Oper.looksAt, Op.operands, Call.operands, List.findIdx?_cons, Act.put] at hk
      simp only [Act.put, List.setIfInBounds_toArray, List.set_cons_succ, List.set_cons_zero]
    · go_wp2_with fail
      exact ⟨rfl, Ext.refl _, by show (_ : Value) = _; (rfl); try rfl⟩
    · have k0 := hk
      obtain rfl : u0 = .pointer (some ⟨w.heap.size, 0, none⟩) := k0
      have hb := he.block G0.out
      have q0 := blk_cell hb 0
      have q1 := blk_cell hb 1
      simp at q0 q1
      clear hb
      go_wp2_with fail
      exact ⟨rfl, Ext.refl _, HT1.out.ext (HE0.out.trans he)⟩
    · have k0 := hk
      have H0 := Lib.hid k0
      clear k0
      go_wp2_with fail
      refine (fromImpl_z (L) (z) _ _ H0.out).mono ?_
      rintro e w2 ⟨he2, x, rfl, hx⟩
      have HX := Lib.hid hx
      clear hx
      go_wp2_with fail
      exact ⟨rfl, he2, HX.out⟩
    · have hb := he.block G3.out
      have q0 := blk_cell hb 0
      have q1 := blk_cell hb 1
      simp at q0 q1
      clear hb
      go_wp2_with fail
      exact ⟨rfl, Ext.refl _, HZ.out.ext (HE0.out.trans he)⟩
    · obtain ⟨k0, k1⟩ := hk
      have H0 := Lib.hid k0
      have H1 := Lib.hid k1
      clear k0 k1
      go_wp2_with fail
      refine (same_z (L) (Lw) (z) (z) _ _ _ (H0.out.z) (H1.out) (by omega) (by omega)).mono ?_
      rintro e w2 ⟨he2, x, rfl, hx⟩
      obtain rfl : x = .bool true := hx.trans (by simp)
      go_wp2_with fail
      exact ⟨rfl, he2, rfl⟩
    · have k0 := hk
      obtain rfl : u4 = .bool true := k0
      go_wp2_with fail
      exact ⟨rfl, Ext.refl _, by show (_ : Value) = _; (first | rfl | simp); try rfl⟩
    · have k0 := hk
      obtain rfl : u5 = .bool true := k0
      go_wp2_with fail
      exact ⟨rfl, Ext.refl _, by show (_ : Value) = _; (rfl); try rfl⟩
    · obtain ⟨k0, k1⟩ := hk
      obtain rfl : u6 = .pointer (some ⟨w.heap.size, 2, none⟩) := k0
      obtain rfl : u5 = .bool true := k1
      have hb := he.block G0.out
      have q0 := blk_cell hb 2
      have q1 := blk_cell hb 3
      simp at q0 q1
      clear hb
      go_wp2_with fail
      exact ⟨rfl, Ext.refl _, HT2.out.ext (HE0.out.trans he)⟩
    · obtain ⟨k0, k1⟩ := hk
      obtain rfl : u5 = .bool true := k1
      have H0 := Lib.hid k0
      clear k0
      go_wp2_with fail
      refine (fromImpl_z (L) (x) _ _ H0.out).mono ?_
      rintro e w2 ⟨he2, x, rfl, hx⟩
      have HX := Lib.hid hx
      clear hx
      go_wp2_with fail
      exact ⟨rfl, he2, HX.out⟩
    · have k0 := hk
      obtain rfl : u5 = .bool true := k0
      have hb := he.block G4.out
      have q0 := blk_cell hb 0
      have q1 := blk_cell hb 1
      simp at q0 q1
      clear hb
      go_wp2_with fail
      exact ⟨rfl, Ext.refl _, HX.out.ext (HE0.out.trans he)⟩
    · obtain ⟨k0, k1, k2⟩ := hk
      obtain rfl : u5 = .bool true := k2
      have H0 := Lib.hid k0
      have H1 := Lib.hid k1
      clear k0 k1
      go_wp2_with fail
      refine (same_z (L) (Lx) (x) (x) _ _ _ (H0.out.z) (H1.out) (by omega) (by omega)).mono ?_
      rintro e w2 ⟨he2, x, rfl, hx⟩
      obtain rfl : x = .bool true := hx.trans (by simp)
      go_wp2_with fail
      exact ⟨rfl, he2, rfl⟩
    · obtain ⟨k0, k1⟩ := hk
      obtain rfl : u5 = .bool true := k0
      obtain rfl : u10 = .bool true := k1
      go_wp2_with fail
      exact ⟨rfl, Ext.refl _, by show (_ : Value) = _; (first | rfl | simp); try rfl⟩
    · have k0 := hk
      obtain rfl : u11 = .bool true := k0
      go_wp2_with fail
      exact ⟨rfl, Ext.refl _, by show (_ : Value) = _; (first | rfl | simp); try rfl⟩
    · have k0 := hk
      obtain rfl : u12 = .bool true := k0
      go_wp2_with fail
      exact ⟨rfl, Ext.refl _, by show (_ : Value) = _; (rfl); try rfl⟩
    · obtain ⟨k0, k1⟩ := hk
      obtain rfl : u13 = .pointer (some ⟨w.heap.size, 4, none⟩) := k0
      obtain rfl : u12 = .bool true := k1
      have hb := he.block G0.out
      have q0 := blk_cell hb 4
      have q1 := blk_cell hb 5
      simp at q0 q1
      clear hb
      go_wp2_with fail
      exact ⟨rfl, Ext.refl _, HT3.out.ext (HE0.out.trans he)⟩
    · obtain ⟨k0, k1⟩ := hk
      obtain rfl : u12 = .bool true := k1
      have H0 := Lib.hid k0
      clear k0
      go_wp2_with fail
      refine (fromImpl_z (L) (y) _ _ H0.out).mono ?_
      rintro e w2 ⟨he2, x, rfl, hx⟩
      have HX := Lib.hid hx
      clear hx
      go_wp2_with fail
      exact ⟨rfl, he2, HX.out⟩
    · have k0 := hk
      obtain rfl : u12 = .bool true := k0
      have hb := he.block G5.out
      have q0 := blk_cell hb 0
      have q1 := blk_cell hb 1
      simp at q0 q1
      clear hb
      go_wp2_with fail
      exact ⟨rfl, Ext.refl _, HY.out.ext (HE0.out.trans he)⟩
    · obtain ⟨k0, k1, k2⟩ := hk
      obtain rfl : u12 = .bool true := k2
      have H0 := Lib.hid k0
      have H1 := Lib.hid k1
      clear k0 k1
      go_wp2_with fail
      refine (same_z (L) (Ly) (y) (y) _ _ _ (H0.out.z) (H1.out) (by omega) (by omega)).mono ?_
      rintro e w2 ⟨he2, x, rfl, hx⟩
      obtain rfl : x = .bool true := hx.trans (by simp)
      go_wp2_with fail
      exact ⟨rfl, he2, rfl⟩
    · obtain ⟨k0, k1⟩ := hk
      obtain rfl : u12 = .bool true := k0
      obtain rfl : u17 = .bool true := k1
      go_wp2_with fail
      exact ⟨rfl, Ext.refl _, by show (_ : Value) = _; (first | rfl | simp); try rfl⟩
  case last =>
    intro w1 he u0 h0 u1 h1 u2 h2 u3 h3 u4 h4 u5 h5 u6 h6 u7 h7 u8 h8 u9 h9 u10 h10 u11 h11 u12 h12 u13 h13 u14 h14 u15 h15 u16 h16 u17 h17 u18 h18
    obtain rfl : u18 = .bool true := h18
    clear h0 h1 h2 h3 h4 h5 h6 h7 h8 h9 h10 h11 h12 h13 h14 h15 h16 h17
    simp only [LastD, Act.put, List.setIfInBounds_toArray, List.set_cons_succ, List.set_cons_zero]
    have HE := Lib.hid ((HE0.out).trans he)
    clear he
    go_wp2_with fail
    go_ret
    exact ⟨HE.out, _, rfl, rfl⟩

set_option maxHeartbeats 1000000 in
theorem told_1 (k : Int) (L Lx Ly Lw : Nat) (x y z : Int) (t X Y Z : Value) (w : World) (hT : IsT L z z y t w) (hX : IsZ Lx x X w) (hY : IsZ Ly y Y w) (hZ : IsZ Lw z Z w)
    (hL : L ≤ 17592186044416) (hLx : Lx ≤ 17592186044416) (hLy : Ly ≤ 17592186044416) (hLw : Lw ≤ 17592186044416) (b1 : (k == 1) = true) :
    Calls Try.prog 18 #[t, .int .i64 k, X, Y, Z] w (ResR (Is (.bool true)) w) := by
  obtain ⟨n1, a1, l1, c1, rfl⟩ := hX.form
  obtain ⟨n2, a2, l2, c2, rfl⟩ := hY.form
  obtain ⟨n3, a3, l3, c3, rfl⟩ := hZ.form
  obtain ⟨m1, s1, m2, s2, m3, s3, rfl, t1, t2, t3⟩ := hT
  have HX := Lib.hid hX
  have HY := Lib.hid hY
  have HZ := Lib.hid hZ
  have HT1 := Lib.hid t1
  have HT2 := Lib.hid t2
  have HT3 := Lib.hid t3
  clear hX hY hZ t1 t2 t3
  go_enter Try.func18, Try.ntmps18
  go_wp2_with fail
  have hsix := six w (.cells #[m1, s1, m2, s2, m3, s3] 32) (.cells #[.bool n1, .slice a1 l1 c1] 24) (.cells #[.bool n2, .slice a2 l2 c2] 24) (.cells #[.bool n3, .slice a3 l3 c3] 24) (.cells #[.bool n3, .slice a3 l3 c3] 24) (.cells #[.bool n2, .slice a2 l2 c2] 24)
  generalize ((((((w.alloc (.cells #[m1, s1, m2, s2, m3, s3] 32)).alloc (.cells #[.bool n1, .slice a1 l1 c1] 24)).alloc (.cells #[.bool n2, .slice a2 l2 c2] 24)).alloc (.cells #[.bool n3, .slice a3 l3 c3] 24)).alloc (.cells #[.bool n3, .slice a3 l3 c3] 24)).alloc (.cells #[.bool n2, .slice a2 l2 c2] 24)) = w6 at *
  obtain ⟨hE, g0, g3, g4, g5⟩ := hsix
  have HE0 := Lib.hid hE
  have G0 := Lib.hid g0
  have G3 := Lib.hid g3
  have G4 := Lib.hid g4
  have G5 := Lib.hid g5
  clear hE g0 g3 g4 g5
  refine wp_region_D preExt mixed [Is (.pointer (some ⟨w.heap.size, 0, none⟩)), IsC (L) (z), IsC (L) (z), IsZ (Lw) (z), Is (.bool true), Is (.bool true), Is (.pointer (some ⟨w.heap.size, 2, none⟩)), IsC (L) (z), IsC (L) (z), IsZ (Lw) (z), Is (.bool true), Is (.bool true), Is (.bool true), Is (.pointer (some ⟨w.heap.size, 4, none⟩)), IsC (L) (y), IsC (L) (y), IsZ (Ly) (y), Is (.bool true), Is (.bool true)] (by kernel_rfl) ?mono rfl ?steps ?last
  case mono =>
    simp only [List.forall_mem_cons, List.not_mem_nil, false_implies, implies_true, and_true]
    refine ⟨?_, ?_, ?_, ?_, ?_, ?_, ?_, ?_, ?_, ?_, ?_, ?_, ?_, ?_, ?_, ?_, ?_, ?_, ?_⟩
    all_goals first | exact fun _ _ _ _ q => q | exact fun _ _ _ he q => q.ext he
  case steps =>
    refine ⟨?_, ?_, ?_, ?_, ?_, ?_, ?_, ?_, ?_, ?_, ?_, ?_, ?_, ?_, ?_, ?_, ?_, ?_, ?_, trivial⟩
    all_goals
      intro u0 u1 u2 u3 u4 u5 u6 u7 u8 u9 u10 u11 u12 u13 u14 u15 u16 u17 u18 u19 w1 he hk
      simp [KnownD, Oper.looksAt, Op.operands, Call.operands, List.findIdx?_cons, Act.put] at hk
      simp only [Act.put, List.setIfInBounds_toArray, List.set_cons_succ, List.set_cons_zero]
    · go_wp2_with fail
      exact ⟨rfl, Ext.refl _, by show (_ : Value) = _; (rfl); try rfl⟩
    · have k0 := hk
      obtain rfl : u0 = .pointer (some ⟨w.heap.size, 0, none⟩) := k0
      have hb := he.block G0.out
      have q0 := blk_cell hb 0
      have q1 := blk_cell hb 1
      simp at q0 q1
      clear hb
      go_wp2_with fail
      exact ⟨rfl, Ext.refl _, HT1.out.ext (HE0.out.trans he)⟩
    · have k0 := hk
      have H0 := Lib.hid k0
      clear k0
      go_wp2_with fail
      refine (fromImpl_z (L) (z) _ _ H0.out).mono ?_
      rintro e w2 ⟨he2, x, rfl, hx⟩
      have HX := Lib.hid hx
      clear hx
      go_wp2_with fail
      exact ⟨rfl, he2, HX.out⟩
    · have hb := he.block G3.out
      have q0 := blk_cell hb 0
      have q1 := blk_cell hb 1
      simp at q0 q1
      clear hb
      go_wp2_with fail
      exact ⟨rfl, Ext.refl _, HZ.out.ext (HE0.out.trans he)⟩
    · obtain ⟨k0, k1⟩ := hk
      have H0 := Lib.hid k0
      have H1 := Lib.hid k1
      clear k0 k1
      go_wp2_with fail
      refine (same_z (L) (Lw) (z) (z) _ _ _ (H0.out.z) (H1.out) (by omega) (by omega)).mono ?_
      rintro e w2 ⟨he2, x, rfl, hx⟩
      obtain rfl : x = .bool true := hx.trans (by simp)
      go_wp2_with fail
      exact ⟨rfl, he2, rfl⟩
    · have k0 := hk
      obtain rfl : u4 = .bool true := k0
      go_wp2_with fail
      exact ⟨rfl, Ext.refl _, by show (_ : Value) = _; (first | rfl | simp); try rfl⟩
    · have k0 := hk
      obtain rfl : u5 = .bool true := k0
      go_wp2_with fail
      exact ⟨rfl, Ext.refl _, by show (_ : Value) = _; (rfl); try rfl⟩
    · obtain ⟨k0, k1⟩ := hk
      obtain rfl : u6 = .pointer (some ⟨w.heap.size, 2, none⟩) := k0
      obtain rfl : u5 = .bool true := k1
      have hb := he.block G0.out
      have q0 := blk_cell hb 2
      have q1 := blk_cell hb 3
      simp at q0 q1
      clear hb
      go_wp2_with fail
      exact ⟨rfl, Ext.refl _, HT2.out.ext (HE0.out.trans he)⟩
    · obtain ⟨k0, k1⟩ := hk
      obtain rfl : u5 = .bool true := k1
      have H0 := Lib.hid k0
      clear k0
      go_wp2_with fail
      refine (fromImpl_z (L) (z) _ _ H0.out).mono ?_
      rintro e w2 ⟨he2, x, rfl, hx⟩
      have HX := Lib.hid hx
      clear hx
      go_wp2_with fail
      exact ⟨rfl, he2, HX.out⟩
    · have k0 := hk
      obtain rfl : u5 = .bool true := k0
      have hb := he.block G4.out
      have q0 := blk_cell hb 0
      have q1 := blk_cell hb 1
      simp at q0 q1
      clear hb
      go_wp2_with fail
      exact ⟨rfl, Ext.refl _, HZ.out.ext (HE0.out.trans he)⟩
    · obtain ⟨k0, k1, k2⟩ := hk
      obtain rfl : u5 = .bool true := k2
      have H0 := Lib.hid k0
      have H1 := Lib.hid k1
      clear k0 k1
      go_wp2_with fail
      refine (same_z (L) (Lw) (z) (z) _ _ _ (H0.out.z) (H1.out) (by omega) (by omega)).mono ?_
      rintro e w2 ⟨he2, x, rfl, hx⟩
      obtain rfl : x = .bool true := hx.trans (by simp)
      go_wp2_with fail
      exact ⟨rfl, he2, rfl⟩
    · obtain ⟨k0, k1⟩ := hk
      obtain rfl : u5 = .bool true := k0
      obtain rfl : u10 = .bool true := k1
      go_wp2_with fail
      exact ⟨rfl, Ext.refl _, by show (_ : Value) = _; (first | rfl | simp); try rfl⟩
    · have k0 := hk
      obtain rfl : u11 = .bool true := k0
      go_wp2_with fail
      exact ⟨rfl, Ext.refl _, by show (_ : Value) = _; (first | rfl | simp); try rfl⟩
    · have k0 := hk
      obtain rfl : u12 = .bool true := k0
      go_wp2_with fail
      exact ⟨rfl, Ext.refl _, by show (_ : Value) = _; (rfl); try rfl⟩
    · obtain ⟨k0, k1⟩ := hk
      obtain rfl : u13 = .pointer (some ⟨w.heap.size, 4, none⟩) := k0
      obtain rfl : u12 = .bool true := k1
      have hb := he.block G0.out
      have q0 := blk_cell hb 4
      have q1 := blk_cell hb 5
      simp at q0 q1
      clear hb
      go_wp2_with fail
      exact ⟨rfl, Ext.refl _, HT3.out.ext (HE0.out.trans he)⟩
    · obtain ⟨k0, k1⟩ := hk
      obtain rfl : u12 = .bool true := k1
      have H0 := Lib.hid k0
      clear k0
      go_wp2_with fail
      refine (fromImpl_z (L) (y) _ _ H0.out).mono ?_
      rintro e w2 ⟨he2, x, rfl, hx⟩
      have HX := Lib.hid hx
      clear hx
      go_wp2_with fail
      exact ⟨rfl, he2, HX.out⟩
    · have k0 := hk
      obtain rfl : u12 = .bool true := k0
      have hb := he.block G5.out
      have q0 := blk_cell hb 0
      have q1 := blk_cell hb 1
      simp at q0 q1
      clear hb
      go_wp2_with fail
      exact ⟨rfl, Ext.refl _, HY.out.ext (HE0.out.trans he)⟩
    · obtain ⟨k0, k1, k2⟩ := hk
      obtain rfl : u12 = .bool true := k2
      have H0 := Lib.hid k0
      have H1 := Lib.hid k1
      clear k0 k1
      go_wp2_with fail
      refine (same_z (L) (Ly) (y) (y) _ _ _ (H0.out.z) (H1.out) (by omega) (by omega)).mono ?_
      rintro e w2 ⟨he2, x, rfl, hx⟩
      obtain rfl : x = .bool true := hx.trans (by simp)
      go_wp2_with fail
      exact ⟨rfl, he2, rfl⟩
    · obtain ⟨k0, k1⟩ := hk
      obtain rfl : u12 = .bool true := k0
      obtain rfl : u17 = .bool true := k1
      go_wp2_with fail
      exact ⟨rfl, Ext.refl _, by show (_ : Value) = _; (first | rfl | simp); try rfl⟩
  case last =>
    intro w1 he u0 h0 u1 h1 u2 h2 u3 h3 u4 h4 u5 h5 u6 h6 u7 h7 u8 h8 u9 h9 u10 h10 u11 h11 u12 h12 u13 h13 u14 h14 u15 h15 u16 h16 u17 h17 u18 h18
    obtain rfl : u18 = .bool true := h18
    clear h0 h1 h2 h3 h4 h5 h6 h7 h8 h9 h10 h11 h12 h13 h14 h15 h16 h17
    simp only [LastD, Act.put, List.setIfInBounds_toArray, List.set_cons_succ, List.set_cons_zero]
    have HE := Lib.hid ((HE0.out).trans he)
    clear he
    go_wp2_with fail
    go_ret
    exact ⟨HE.out, _, rfl, rfl⟩

set_option maxHeartbeats 1000000 in
theorem told_2 (k : Int) (L Lx Ly Lw : Nat) (x y z : Int) (t X Y Z : Value) (w : World) (hT : IsT L z x z t w) (hX : IsZ Lx x X w) (hY : IsZ Ly y Y w) (hZ : IsZ Lw z Z w)
    (hL : L ≤ 17592186044416) (hLx : Lx ≤ 17592186044416) (hLy : Ly ≤ 17592186044416) (hLw : Lw ≤ 17592186044416) (b1 : (k == 1) = false) (b2 : (k == 2) = true) :
    Calls Try.prog 18 #[t, .int .i64 k, X, Y, Z] w (ResR (Is (.bool true)) w) := by
  obtain ⟨n1, a1, l1, c1, rfl⟩ := hX.form
  obtain ⟨n2, a2, l2, c2, rfl⟩ := hY.form
  obtain ⟨n3, a3, l3, c3, rfl⟩ := hZ.form
  obtain ⟨m1, s1, m2, s2, m3, s3, rfl, t1, t2, t3⟩ := hT
  have HX := Lib.hid hX
  have HY := Lib.hid hY
  have HZ := Lib.hid hZ
  have HT1 := Lib.hid t1
  have HT2 := Lib.hid t2
  have HT3 := Lib.hid t3
  clear hX hY hZ t1 t2 t3
  go_enter Try.func18, Try.ntmps18
  go_wp2_with fail
  have hsix := six w (.cells #[m1, s1, m2, s2, m3, s3] 32) (.cells #[.bool n1, .slice a1 l1 c1] 24) (.cells #[.bool n2, .slice a2 l2 c2] 24) (.cells #[.bool n3, .slice a3 l3 c3] 24) (.cells #[.bool n1, .slice a1 l1 c1] 24) (.cells #[.bool n3, .slice a3 l3 c3] 24)
  generalize ((((((w.alloc (.cells #[m1, s1, m2, s2, m3, s3] 32)).alloc (.cells #[.bool n1, .slice a1 l1 c1] 24)).alloc (.cells #[.bool n2, .slice a2 l2 c2] 24)).alloc (.cells #[.bool n3, .slice a3 l3 c3] 24)).alloc (.cells #[.bool n1, .slice a1 l1 c1] 24)).alloc (.cells #[.bool n3, .slice a3 l3 c3] 24)) = w6 at *
  obtain ⟨hE, g0, g3, g4, g5⟩ := hsix
  have HE0 := Lib.hid hE
  have G0 := Lib.hid g0
  have G3 := Lib.hid g3
  have G4 := Lib.hid g4
  have G5 := Lib.hid g5
  clear hE g0 g3 g4 g5
  refine wp_region_D preExt mixed [Is (.pointer (some ⟨w.heap.size, 0, none⟩)), IsC (L) (z), IsC (L) (z), IsZ (Lw) (z), Is (.bool true), Is (.bool true), Is (.pointer (some ⟨w.heap.size, 2, none⟩)), IsC (L) (x), IsC (L) (x), IsZ (Lx) (x), Is (.bool true), Is (.bool true), Is (.bool true), Is (.pointer (some ⟨w.heap.size, 4, none⟩)), IsC (L) (z), IsC (L) (z), IsZ (Lw) (z), Is (.bool true), Is (.bool true)] (by kernel_rfl) ?mono rfl ?steps ?last
  case mono =>
    simp only [List.forall_mem_cons, List.not_mem_nil, false_implies, implies_true, and_true]
    refine ⟨?_, ?_, ?_, ?_, ?_, ?_, ?_, ?_, ?_, ?_, ?_, ?_, ?_, ?_, ?_, ?_, ?_, ?_, ?_⟩
    all_goals first | exact fun _ _ _ _ q => q | exact fun _ _ _ he q => q.ext he
  case steps =>
    refine ⟨?_, ?_, ?_, ?_, ?_, ?_, ?_, ?_, ?_, ?_, ?_, ?_, ?_, ?_, ?_, ?_, ?_, ?_, ?_, trivial⟩
    all_goals
      intro u0 u1 u2 u3 u4 u5 u6 u7 u8 u9 u10 u11 u12 u13 u14 u15 u16 u17 u18 u19 w1 he hk
      simp [KnownD, Oper.looksAt, Op.operands, Call.operands, List.findIdx?_cons, Act.put] at hk
      simp only [Act.put, List.setIfInBounds_toArray, List.set_cons_succ, List.set_cons_zero]
    · go_wp2_with fail
      exact ⟨rfl, Ext.refl _, by show (_ : Value) = _; (rfl); try rfl⟩
    · have k0 := hk
      obtain rfl : u0 = .pointer (some ⟨w.heap.size, 0, none⟩) := k0
      have hb := he.block G0.out
      have q0 := blk_cell hb 0
      have q1 := blk_cell hb 1
      simp at q0 q1
      clear hb
      go_wp2_with fail
      exact ⟨rfl, Ext.refl _, HT1.out.ext (HE0.out.trans he)⟩
    · have k0 := hk
      have H0 := Lib.hid k0
      clear k0
      go_wp2_with fail
      refine (fromImpl_z (L) (z) _ _ H0.out).mono ?_
      rintro e w2 ⟨he2, x, rfl, hx⟩
      have HX := Lib.hid hx
      clear hx
      go_wp2_with fail
      exact ⟨rfl, he2, HX.out⟩
    · have hb := he.block G3.out
      have q0 := blk_cell hb 0
      have q1 := blk_cell hb 1
      simp at q0 q1
      clear hb
      go_wp2_with fail
      exact ⟨rfl, Ext.refl _, HZ.out.ext (HE0.out.trans he)⟩
    · obtain ⟨k0, k1⟩ := hk
      have H0 := Lib.hid k0
      have H1 := Lib.hid k1
      clear k0 k1
      go_wp2_with fail
      refine (same_z (L) (Lw) (z) (z) _ _ _ (H0.out.z) (H1.out) (by omega) (by omega)).mono ?_
      rintro e w2 ⟨he2, x, rfl, hx⟩
      obtain rfl : x = .bool true := hx.trans (by simp)
      go_wp2_with fail
      exact ⟨rfl, he2, rfl⟩
    · have k0 := hk
      obtain rfl : u4 = .bool true := k0
      go_wp2_with fail
      exact ⟨rfl, Ext.refl _, by show (_ : Value) = _; (first | rfl | simp); try rfl⟩
    · have k0 := hk
      obtain rfl : u5 = .bool true := k0
      go_wp2_with fail
      exact ⟨rfl, Ext.refl _, by show (_ : Value) = _; (rfl); try rfl⟩
    · obtain ⟨k0, k1⟩ := hk
      obtain rfl : u6 = .pointer (some ⟨w.heap.size, 2, none⟩) := k0
      obtain rfl : u5 = .bool true := k1
      have hb := he.block G0.out
      have q0 := blk_cell hb 2
      have q1 := blk_cell hb 3
      simp at q0 q1
      clear hb
      go_wp2_with fail
      exact ⟨rfl, Ext.refl _, HT2.out.ext (HE0.out.trans he)⟩
    · obtain ⟨k0, k1⟩ := hk
      obtain rfl : u5 = .bool true := k1
      have H0 := Lib.hid k0
      clear k0
      go_wp2_with fail
      refine (fromImpl_z (L) (x) _ _ H0.out).mono ?_
      rintro e w2 ⟨he2, x, rfl, hx⟩
      have HX := Lib.hid hx
      clear hx
      go_wp2_with fail
      exact ⟨rfl, he2, HX.out⟩
    · have k0 := hk
      obtain rfl : u5 = .bool true := k0
      have hb := he.block G4.out
      have q0 := blk_cell hb 0
      have q1 := blk_cell hb 1
      simp at q0 q1
      clear hb
      go_wp2_with fail
      exact ⟨rfl, Ext.refl _, HX.out.ext (HE0.out.trans he)⟩
    · obtain ⟨k0, k1, k2⟩ := hk
      obtain rfl : u5 = .bool true := k2
      have H0 := Lib.hid k0
      have H1 := Lib.hid k1
      clear k0 k1
      go_wp2_with fail
      refine (same_z (L) (Lx) (x) (x) _ _ _ (H0.out.z) (H1.out) (by omega) (by omega)).mono ?_
      rintro e w2 ⟨he2, x, rfl, hx⟩
      obtain rfl : x = .bool true := hx.trans (by simp)
      go_wp2_with fail
      exact ⟨rfl, he2, rfl⟩
    · obtain ⟨k0, k1⟩ := hk
      obtain rfl : u5 = .bool true := k0
      obtain rfl : u10 = .bool true := k1
      go_wp2_with fail
      exact ⟨rfl, Ext.refl _, by show (_ : Value) = _; (first | rfl | simp); try rfl⟩
    · have k0 := hk
      obtain rfl : u11 = .bool true := k0
      go_wp2_with fail
      exact ⟨rfl, Ext.refl _, by show (_ : Value) = _; (first | rfl | simp); try rfl⟩
    · have k0 := hk
      obtain rfl : u12 = .bool true := k0
      go_wp2_with fail
      exact ⟨rfl, Ext.refl _, by show (_ : Value) = _; (rfl); try rfl⟩
    · obtain ⟨k0, k1⟩ := hk
      obtain rfl : u13 = .pointer (some ⟨w.heap.size, 4, none⟩) := k0
      obtain rfl : u12 = .bool true := k1
      have hb := he.block G0.out
      have q0 := blk_cell hb 4
      have q1 := blk_cell hb 5
      simp at q0 q1
      clear hb
      go_wp2_with fail
      exact ⟨rfl, Ext.refl _, HT3.out.ext (HE0.out.trans he)⟩
    · obtain ⟨k0, k1⟩ := hk
      obtain rfl : u12 = .bool true := k1
      have H0 := Lib.hid k0
      clear k0
      go_wp2_with fail
      refine (fromImpl_z (L) (z) _ _ H0.out).mono ?_
      rintro e w2 ⟨he2, x, rfl, hx⟩
      have HX := Lib.hid hx
      clear hx
      go_wp2_with fail
      exact ⟨rfl, he2, HX.out⟩
    · have k0 := hk
      obtain rfl : u12 = .bool true := k0
      have hb := he.block G5.out
      have q0 := blk_cell hb 0
      have q1 := blk_cell hb 1
      simp at q0 q1
      clear hb
      go_wp2_with fail
      exact ⟨rfl, Ext.refl _, HZ.out.ext (HE0.out.trans he)⟩
    · obtain ⟨k0, k1, k2⟩ := hk
      obtain rfl : u12 = .bool true := k2
      have H0 := Lib.hid k0
      have H1 := Lib.hid k1
      clear k0 k1
      go_wp2_with fail
      refine (same_z (L) (Lw) (z) (z) _ _ _ (H0.out.z) (H1.out) (by omega) (by omega)).mono ?_
      rintro e w2 ⟨he2, x, rfl, hx⟩
      obtain rfl : x = .bool true := hx.trans (by simp)
      go_wp2_with fail
      exact ⟨rfl, he2, rfl⟩
    · obtain ⟨k0, k1⟩ := hk
      obtain rfl : u12 = .bool true := k0
      obtain rfl : u17 = .bool true := k1
      go_wp2_with fail
      exact ⟨rfl, Ext.refl _, by show (_ : Value) = _; (first | rfl | simp); try rfl⟩
  case last =>
    intro w1 he u0 h0 u1 h1 u2 h2 u3 h3 u4 h4 u5 h5 u6 h6 u7 h7 u8 h8 u9 h9 u10 h10 u11 h11 u12 h12 u13 h13 u14 h14 u15 h15 u16 h16 u17 h17 u18 h18
    obtain rfl : u18 = .bool true := h18
    clear h0 h1 h2 h3 h4 h5 h6 h7 h8 h9 h10 h11 h12 h13 h14 h15 h16 h17
    simp only [LastD, Act.put, List.setIfInBounds_toArray, List.set_cons_succ, List.set_cons_zero]
    have HE := Lib.hid ((HE0.out).trans he)
    clear he
    go_wp2_with fail
    go_ret
    exact ⟨HE.out, _, rfl, rfl⟩

set_option maxHeartbeats 1000000 in
theorem told_3 (k : Int) (L Lx Ly Lw : Nat) (x y z : Int) (t X Y Z : Value) (w : World) (hT : IsT L z z z t w) (hX : IsZ Lx x X w) (hY : IsZ Ly y Y w) (hZ : IsZ Lw z Z w)
    (hL : L ≤ 17592186044416) (hLx : Lx ≤ 17592186044416) (hLy : Ly ≤ 17592186044416) (hLw : Lw ≤ 17592186044416) (b1 : (k == 1) = false) (b2 : (k == 2) = false) (b3 : (k == 3) = true) :
    Calls Try.prog 18 #[t, .int .i64 k, X, Y, Z] w (ResR (Is (.bool true)) w) := by
  obtain ⟨n1, a1, l1, c1, rfl⟩ := hX.form
  obtain ⟨n2, a2, l2, c2, rfl⟩ := hY.form
  obtain ⟨n3, a3, l3, c3, rfl⟩ := hZ.form
  obtain ⟨m1, s1, m2, s2, m3, s3, rfl, t1, t2, t3⟩ := hT
  have HX := Lib.hid hX
  have HY := Lib.hid hY
  have HZ := Lib.hid hZ
  have HT1 := Lib.hid t1
  have HT2 := Lib.hid t2
  have HT3 := Lib.hid t3
  clear hX hY hZ t1 t2 t3
  go_enter Try.func18, Try.ntmps18
  go_wp2_with fail
  have hsix := six w (.cells #[m1, s1, m2, s2, m3, s3] 32) (.cells #[.bool n1, .slice a1 l1 c1] 24) (.cells #[.bool n2, .slice a2 l2 c2] 24) (.cells #[.bool n3, .slice a3 l3 c3] 24) (.cells #[.bool n3, .slice a3 l3 c3] 24) (.cells #[.bool n3, .slice a3 l3 c3] 24)
  generalize ((((((w.alloc (.cells #[m1, s1, m2, s2, m3, s3] 32)).alloc (.cells #[.bool n1, .slice a1 l1 c1] 24)).alloc (.cells #[.bool n2, .slice a2 l2 c2] 24)).alloc (.cells #[.bool n3, .slice a3 l3 c3] 24)).alloc (.cells #[.bool n3, .slice a3 l3 c3] 24)).alloc (.cells #[.bool n3, .slice a3 l3 c3] 24)) = w6 at *
  obtain ⟨hE, g0, g3, g4, g5⟩ := hsix
  have HE0 := Lib.hid hE
  have G0 := Lib.hid g0
  have G3 := Lib.hid g3
  have G4 := Lib.hid g4
  have G5 := Lib.hid g5
  clear hE g0 g3 g4 g5
  refine wp_region_D preExt mixed [Is (.pointer (some ⟨w.heap.size, 0, none⟩)), IsC (L) (z), IsC (L) (z), IsZ (Lw) (z), Is (.bool true), Is (.bool true), Is (.pointer (some ⟨w.heap.size, 2, none⟩)), IsC (L) (z), IsC (L) (z), IsZ (Lw) (z), Is (.bool true), Is (.bool true), Is (.bool true), Is (.pointer (some ⟨w.heap.size, 4, none⟩)), IsC (L) (z), IsC (L) (z), IsZ (Lw) (z), Is (.bool true), Is (.bool true)] (by kernel_rfl) ?mono rfl ?steps ?last
  case mono =>
    simp only [List.forall_mem_cons, List.not_mem_nil, false_implies, implies_true, and_true]
    refine ⟨?_, ?_, ?_, ?_, ?_, ?_, ?_, ?_, ?_, ?_, ?_, ?_, ?_, ?_, ?_, ?_, ?_, ?_, ?_⟩
    all_goals first | exact fun _ _ _ _ q => q | exact fun _ _ _ he q => q.ext he
  case steps =>
    refine ⟨?_, ?_, ?_, ?_, ?_, ?_, ?_, ?_, ?_, ?_, ?_, ?_, ?_, ?_, ?_, ?_, ?_, ?_, ?_, trivial⟩
    all_goals
      intro u0 u1 u2 u3 u4 u5 u6 u7 u8 u9 u10 u11 u12 u13 u14 u15 u16 u17 u18 u19 w1 he hk
      simp [KnownD, Oper.looksAt, Op.operands, Call.operands, List.findIdx?_cons, Act.put] at hk
      simp only [Act.put, List.setIfInBounds_toArray, List.set_cons_succ, List.set_cons_zero]
    · go_wp2_with fail
      exact ⟨rfl, Ext.refl _, by show (_ : Value) = _; (rfl); try rfl⟩
    · have k0 := hk
      obtain rfl : u0 = .pointer (some ⟨w.heap.size, 0, none⟩) := k0
      have hb := he.block G0.out
      have q0 := blk_cell hb 0
      have q1 := blk_cell hb 1
      simp at q0 q1
      clear hb
      go_wp2_with fail
      exact ⟨rfl, Ext.refl _, HT1.out.ext (HE0.out.trans he)⟩
    · have k0 := hk
      have H0 := Lib.hid k0
      clear k0
      go_wp2_with fail
      refine (fromImpl_z (L) (z) _ _ H0.out).mono ?_
      rintro e w2 ⟨he2, x, rfl, hx⟩
      have HX := Lib.hid hx
      clear hx
      go_wp2_with fail
      exact ⟨rfl, he2, HX.out⟩
    · have hb := he.block G3.out
      have q0 := blk_cell hb 0
      have q1 := blk_cell hb 1
      simp at q0 q1
      clear hb
      go_wp2_with fail
      exact ⟨rfl, Ext.refl _, HZ.out.ext (HE0.out.trans he)⟩
    · obtain ⟨k0, k1⟩ := hk
      have H0 := Lib.hid k0
      have H1 := Lib.hid k1
      clear k0 k1
      go_wp2_with fail
      refine (same_z (L) (Lw) (z) (z) _ _ _ (H0.out.z) (H1.out) (by omega) (by omega)).mono ?_
      rintro e w2 ⟨he2, x, rfl, hx⟩
      obtain rfl : x = .bool true := hx.trans (by simp)
      go_wp2_with fail
      exact ⟨rfl, he2, rfl⟩
    · have k0 := hk
      obtain rfl : u4 = .bool true := k0
      go_wp2_with fail
      exact ⟨rfl, Ext.refl _, by show (_ : Value) = _; (first | rfl | simp); try rfl⟩
    · have k0 := hk
      obtain rfl : u5 = .bool true := k0
      go_wp2_with fail
      exact ⟨rfl, Ext.refl _, by show (_ : Value) = _; (rfl); try rfl⟩
    · obtain ⟨k0, k1⟩ := hk
      obtain rfl : u6 = .pointer (some ⟨w.heap.size, 2, none⟩) := k0
      obtain rfl : u5 = .bool true := k1
      have hb := he.block G0.out
      have q0 := blk_cell hb 2
      have q1 := blk_cell hb 3
      simp at q0 q1
      clear hb
      go_wp2_with fail
      exact ⟨rfl, Ext.refl _, HT2.out.ext (HE0.out.trans he)⟩
    · obtain ⟨k0, k1⟩ := hk
      obtain rfl : u5 = .bool true := k1
      have H0 := Lib.hid k0
      clear k0
      go_wp2_with fail
      refine (fromImpl_z (L) (z) _ _ H0.out).mono ?_
      rintro e w2 ⟨he2, x, rfl, hx⟩
      have HX := Lib.hid hx
      clear hx
      go_wp2_with fail
      exact ⟨rfl, he2, HX.out⟩
    · have k0 := hk
      obtain rfl : u5 = .bool true := k0
      have hb := he.block G4.out
      have q0 := blk_cell hb 0
      have q1 := blk_cell hb 1
      simp at q0 q1
      clear hb
      go_wp2_with fail
      exact ⟨rfl, Ext.refl _, HZ.out.ext (HE0.out.trans he)⟩
    · obtain ⟨k0, k1, k2⟩ := hk
      obtain rfl : u5 = .bool true := k2
      have H0 := Lib.hid k0
      have H1 := Lib.hid k1
      clear k0 k1
      go_wp2_with fail
      refine (same_z (L) (Lw) (z) (z) _ _ _ (H0.out.z) (H1.out) (by omega) (by omega)).mono ?_
      rintro e w2 ⟨he2, x, rfl, hx⟩
      obtain rfl : x = .bool true := hx.trans (by simp)
      go_wp2_with fail
      exact ⟨rfl, he2, rfl⟩
    · obtain ⟨k0, k1⟩ := hk
      obtain rfl : u5 = .bool true := k0
      obtain rfl : u10 = .bool true := k1
      go_wp2_with fail
      exact ⟨rfl, Ext.refl _, by show (_ : Value) = _; (first | rfl | simp); try rfl⟩
    · have k0 := hk
      obtain rfl : u11 = .bool true := k0
      go_wp2_with fail
      exact ⟨rfl, Ext.refl _, by show (_ : Value) = _; (first | rfl | simp); try rfl⟩
    · have k0 := hk
      obtain rfl : u12 = .bool true := k0
      go_wp2_with fail
      exact ⟨rfl, Ext.refl _, by show (_ : Value) = _; (rfl); try rfl⟩
    · obtain ⟨k0, k1⟩ := hk
      obtain rfl : u13 = .pointer (some ⟨w.heap.size, 4, none⟩) := k0
      obtain rfl : u12 = .bool true := k1
      have hb := he.block G0.out
      have q0 := blk_cell hb 4
      have q1 := blk_cell hb 5
      simp at q0 q1
      clear hb
      go_wp2_with fail
      exact ⟨rfl, Ext.refl _, HT3.out.ext (HE0.out.trans he)⟩
    · obtain ⟨k0, k1⟩ := hk
      obtain rfl : u12 = .bool true := k1
      have H0 := Lib.hid k0
      clear k0
      go_wp2_with fail
      refine (fromImpl_z (L) (z) _ _ H0.out).mono ?_
      rintro e w2 ⟨he2, x, rfl, hx⟩
      have HX := Lib.hid hx
      clear hx
      go_wp2_with fail
      exact ⟨rfl, he2, HX.out⟩
    · have k0 := hk
      obtain rfl : u12 = .bool true := k0
      have hb := he.block G5.out
      have q0 := blk_cell hb 0
      have q1 := blk_cell hb 1
      simp at q0 q1
      clear hb
      go_wp2_with fail
      exact ⟨rfl, Ext.refl _, HZ.out.ext (HE0.out.trans he)⟩
    · obtain ⟨k0, k1, k2⟩ := hk
      obtain rfl : u12 = .bool true := k2
      have H0 := Lib.hid k0
      have H1 := Lib.hid k1
      clear k0 k1
      go_wp2_with fail
      refine (same_z (L) (Lw) (z) (z) _ _ _ (H0.out.z) (H1.out) (by omega) (by omega)).mono ?_
      rintro e w2 ⟨he2, x, rfl, hx⟩
      obtain rfl : x = .bool true := hx.trans (by simp)
      go_wp2_with fail
      exact ⟨rfl, he2, rfl⟩
    · obtain ⟨k0, k1⟩ := hk
      obtain rfl : u12 = .bool true := k0
      obtain rfl : u17 = .bool true := k1
      go_wp2_with fail
      exact ⟨rfl, Ext.refl _, by show (_ : Value) = _; (first | rfl | simp); try rfl⟩
  case last =>
    intro w1 he u0 h0 u1 h1 u2 h2 u3 h3 u4 h4 u5 h5 u6 h6 u7 h7 u8 h8 u9 h9 u10 h10 u11 h11 u12 h12 u13 h13 u14 h14 u15 h15 u16 h16 u17 h17 u18 h18
    obtain rfl : u18 = .bool true := h18
    clear h0 h1 h2 h3 h4 h5 h6 h7 h8 h9 h10 h11 h12 h13 h14 h15 h16 h17
    simp only [LastD, Act.put, List.setIfInBounds_toArray, List.set_cons_succ, List.set_cons_zero]
    have HE := Lib.hid ((HE0.out).trans he)
    clear he
    go_wp2_with fail
    go_ret
    exact ⟨HE.out, _, rfl, rfl⟩

set_option maxHeartbeats 1000000 in
theorem told_4 (k : Int) (L Lx Ly Lw : Nat) (x y z : Int) (t X Y Z : Value) (w : World) (hT : IsT L z x x t w) (hX : IsZ Lx x X w) (hY : IsZ Ly y Y w) (hZ : IsZ Lw z Z w)
    (hL : L ≤ 17592186044416) (hLx : Lx ≤ 17592186044416) (hLy : Ly ≤ 17592186044416) (hLw : Lw ≤ 17592186044416) (b1 : (k == 1) = false) (b2 : (k == 2) = false) (b3 : (k == 3) = false) (b4 : (k == 4) = true) :
    Calls Try.prog 18 #[t, .int .i64 k, X, Y, Z] w (ResR (Is (.bool true)) w) := by
  obtain ⟨n1, a1, l1, c1, rfl⟩ := hX.form
  obtain ⟨n2, a2, l2, c2, rfl⟩ := hY.form
  obtain ⟨n3, a3, l3, c3, rfl⟩ := hZ.form
  obtain ⟨m1, s1, m2, s2, m3, s3, rfl, t1, t2, t3⟩ := hT
  have HX := Lib.hid hX
  have HY := Lib.hid hY
  have HZ := Lib.hid hZ
  have HT1 := Lib.hid t1
  have HT2 := Lib.hid t2
  have HT3 := Lib.hid t3
  clear hX hY hZ t1 t2 t3
  go_enter Try.func18, Try.ntmps18
  go_wp2_with fail
  have hsix := six w (.cells #[m1, s1, m2, s2, m3, s3] 32) (.cells #[.bool n1, .slice a1 l1 c1] 24) (.cells #[.bool n2, .slice a2 l2 c2] 24) (.cells #[.bool n3, .slice a3 l3 c3] 24) (.cells #[.bool n1, .slice a1 l1 c1] 24) (.cells #[.bool n1, .slice a1 l1 c1] 24)
  generalize ((((((w.alloc (.cells #[m1, s1, m2, s2, m3, s3] 32)).alloc (.cells #[.bool n1, .slice a1 l1 c1] 24)).alloc (.cells #[.bool n2, .slice a2 l2 c2] 24)).alloc (.cells #[.bool n3, .slice a3 l3 c3] 24)).alloc (.cells #[.bool n1, .slice a1 l1 c1] 24)).alloc (.cells #[.bool n1, .slice a1 l1 c1] 24)) = w6 at *
  obtain ⟨hE, g0, g3, g4, g5⟩ := hsix
  have HE0 := Lib.hid hE
  have G0 := Lib.hid g0
  have G3 := Lib.hid g3
  have G4 := Lib.hid g4
  have G5 := Lib.hid g5
  clear hE g0 g3 g4 g5
  refine wp_region_D preExt mixed [Is (.pointer (some ⟨w.heap.size, 0, none⟩)), IsC (L) (z), IsC (L) (z), IsZ (Lw) (z), Is (.bool true), Is (.bool true), Is (.pointer (some ⟨w.heap.size, 2, none⟩)), IsC (L) (x), IsC (L) (x), IsZ (Lx) (x), Is (.bool true), Is (.bool true), Is (.bool true), Is (.pointer (some ⟨w.heap.size, 4, none⟩)), IsC (L) (x), IsC (L) (x), IsZ (Lx) (x), Is (.bool true), Is (.bool true)] (by kernel_rfl) ?mono rfl ?steps ?last
  case mono =>
    simp only [List.forall_mem_cons, List.not_mem_nil, false_implies, implies_true, and_true]
    refine ⟨?_, ?_, ?_, ?_, ?_, ?_, ?_, ?_, ?_, ?_, ?_, ?_, ?_, ?_, ?_, ?_, ?_, ?_, ?_⟩
    all_goals first | exact fun _ _ _ _ q => q | exact fun _ _ _ he q => q.ext he
  case steps =>
    refine ⟨?_, ?_, ?_, ?_, ?_, ?_, ?_, ?_, ?_, ?_, ?_, ?_, ?_, ?_, ?_, ?_, ?_, ?_, ?_, trivial⟩
    all_goals
      intro u0 u1 u2 u3 u4 u5 u6 u7 u8 u9 u10 u11 u12 u13 u14 u15 u16 u17 u18 u19 w1 he hk
      simp [KnownD, Oper.looksAt, Op.operands, Call.operands, List.findIdx?_cons, Act.put] at hk
      simp only [Act.put, List.setIfInBounds_toArray, List.set_cons_succ, List.set_cons_zero]
    · go_wp2_with fail
      exact ⟨rfl, Ext.refl _, by show (_ : Value) = _; (rfl); try rfl⟩
    · have k0 := hk
      obtain rfl : u0 = .pointer (some ⟨w.heap.size, 0, none⟩) := k0
      have hb := he.block G0.out
      have q0 := blk_cell hb 0
      have q1 := blk_cell hb 1
      simp at q0 q1
      clear hb
      go_wp2_with fail
      exact ⟨rfl, Ext.refl _, HT1.out.ext (HE0.out.trans he)⟩
    · have k0 := hk
      have H0 := Lib.hid k0
      clear k0
      go_wp2_with fail
      refine (fromImpl_z (L) (z) _ _ H0.out).mono ?_
      rintro e w2 ⟨he2, x, rfl, hx⟩
      have HX := Lib.hid hx
      clear hx
      go_wp2_with fail
      exact ⟨rfl, he2, HX.out⟩
    · have hb := he.block G3.out
      have q0 := blk_cell hb 0
      have q1 := blk_cell hb 1
      simp at q0 q1
      clear hb
      go_wp2_with fail
      exact ⟨rfl, Ext.refl _, HZ.out.ext (HE0.out.trans he)⟩
    · obtain ⟨k0, k1⟩ := hk
      have H0 := Lib.hid k0
      have H1 := Lib.hid k1
      clear k0 k1
      go_wp2_with fail
      refine (same_z (L) (Lw) (z) (z) _ _ _ (H0.out.z) (H1.out) (by omega) (by omega)).mono ?_
      rintro e w2 ⟨he2, x, rfl, hx⟩
      obtain rfl : x = .bool true := hx.trans (by simp)
      go_wp2_with fail
      exact ⟨rfl, he2, rfl⟩
    · have k0 := hk
      obtain rfl : u4 = .bool true := k0
      go_wp2_with fail
      exact ⟨rfl, Ext.refl _, by show (_ : Value) = _; (first | rfl | simp); try rfl⟩
    · have k0 := hk
      obtain rfl : u5 = .bool true := k0
      go_wp2_with fail
      exact ⟨rfl, Ext.refl _, by show (_ : Value) = _; (rfl); try rfl⟩
    · obtain ⟨k0, k1⟩ := hk
      obtain rfl : u6 = .pointer (some ⟨w.heap.size, 2, none⟩) := k0
      obtain rfl : u5 = .bool true := k1
      have hb := he.block G0.out
      have q0 := blk_cell hb 2
      have q1 := blk_cell hb 3
      simp at q0 q1
      clear hb
      go_wp2_with fail
      exact ⟨rfl, Ext.refl _, HT2.out.ext (HE0.out.trans he)⟩
    · obtain ⟨k0, k1⟩ := hk
      obtain rfl : u5 = .bool true := k1
      have H0 := Lib.hid k0
      clear k0
      go_wp2_with fail
      refine (fromImpl_z (L) (x) _ _ H0.out).mono ?_
      rintro e w2 ⟨he2, x, rfl, hx⟩
      have HX := Lib.hid hx
      clear hx
      go_wp2_with fail
      exact ⟨rfl, he2, HX.out⟩
    · have k0 := hk
      obtain rfl : u5 = .bool true := k0
      have hb := he.block G4.out
      have q0 := blk_cell hb 0
      have q1 := blk_cell hb 1
      simp at q0 q1
      clear hb
      go_wp2_with fail
      exact ⟨rfl, Ext.refl _, HX.out.ext (HE0.out.trans he)⟩
    · obtain ⟨k0, k1, k2⟩ := hk
      obtain rfl : u5 = .bool true := k2
      have H0 := Lib.hid k0
      have H1 := Lib.hid k1
      clear k0 k1
      go_wp2_with fail
      refine (same_z (L) (Lx) (x) (x) _ _ _ (H0.out.z) (H1.out) (by omega) (by omega)).mono ?_
      rintro e w2 ⟨he2, x, rfl, hx⟩
      obtain rfl : x = .bool true := hx.trans (by simp)
      go_wp2_with fail
      exact ⟨rfl, he2, rfl⟩
    · obtain ⟨k0, k1⟩ := hk
      obtain rfl : u5 = .bool true := k0
      obtain rfl : u10 = .bool true := k1
      go_wp2_with fail
      exact ⟨rfl, Ext.refl _, by show (_ : Value) = _; (first | rfl | simp); try rfl⟩
    · have k0 := hk
      obtain rfl : u11 = .bool true := k0
      go_wp2_with fail
      exact ⟨rfl, Ext.refl _, by show (_ : Value) = _; (first | rfl | simp); try rfl⟩
    · have k0 := hk
      obtain rfl : u12 = .bool true := k0
      go_wp2_with fail
      exact ⟨rfl, Ext.refl _, by show (_ : Value) = _; (rfl); try rfl⟩
    · obtain ⟨k0, k1⟩ := hk
      obtain rfl : u13 = .pointer (some ⟨w.heap.size, 4, none⟩) := k0
      obtain rfl : u12 = .bool true := k1
      have hb := he.block G0.out
      have q0 := blk_cell hb 4
      have q1 := blk_cell hb 5
      simp at q0 q1
      clear hb
      go_wp2_with fail
      exact ⟨rfl, Ext.refl _, HT3.out.ext (HE0.out.trans he)⟩
    · obtain ⟨k0, k1⟩ := hk
      obtain rfl : u12 = .bool true := k1
      have H0 := Lib.hid k0
      clear k0
      go_wp2_with fail
      refine (fromImpl_z (L) (x) _ _ H0.out).mono ?_
      rintro e w2 ⟨he2, x, rfl, hx⟩
      have HX := Lib.hid hx
      clear hx
      go_wp2_with fail
      exact ⟨rfl, he2, HX.out⟩
    · have k0 := hk
      obtain rfl : u12 = .bool true := k0
      have hb := he.block G5.out
      have q0 := blk_cell hb 0
      have q1 := blk_cell hb 1
      simp at q0 q1
      clear hb
      go_wp2_with fail
      exact ⟨rfl, Ext.refl _, HX.out.ext (HE0.out.trans he)⟩
    · obtain ⟨k0, k1, k2⟩ := hk
      obtain rfl : u12 = .bool true := k2
      have H0 := Lib.hid k0
      have H1 := Lib.hid k1
      clear k0 k1
      go_wp2_with fail
      refine (same_z (L) (Lx) (x) (x) _ _ _ (H0.out.z) (H1.out) (by omega) (by omega)).mono ?_
      rintro e w2 ⟨he2, x, rfl, hx⟩
      obtain rfl : x = .bool true := hx.trans (by simp)
      go_wp2_with fail
      exact ⟨rfl, he2, rfl⟩
    · obtain ⟨k0, k1⟩ := hk
      obtain rfl : u12 = .bool true := k0
      obtain rfl : u17 = .bool true := k1
      go_wp2_with fail
      exact ⟨rfl, Ext.refl _, by show (_ : Value) = _; (first | rfl | simp); try rfl⟩
  case last =>
    intro w1 he u0 h0 u1 h1 u2 h2 u3 h3 u4 h4 u5 h5 u6 h6 u7 h7 u8 h8 u9 h9 u10 h10 u11 h11 u12 h12 u13 h13 u14 h14 u15 h15 u16 h16 u17 h17 u18 h18
    obtain rfl : u18 = .bool true := h18
    clear h0 h1 h2 h3 h4 h5 h6 h7 h8 h9 h10 h11 h12 h13 h14 h15 h16 h17
    simp only [LastD, Act.put, List.setIfInBounds_toArray, List.set_cons_succ, List.set_cons_zero]
    have HE := Lib.hid ((HE0.out).trans he)
    clear he
    go_wp2_with fail
    go_ret
    exact ⟨HE.out, _, rfl, rfl⟩

def toldA (k x z : Int) : Int := if k = 1 ∨ k = 3 then z else x
def toldB (k x y z : Int) : Int := if k = 2 ∨ k = 3 then z else if k = 4 then x else y

theorem told_z (k : Int) (L Lx Ly Lw : Nat) (x y z : Int) (t X Y Z : Value) (w : World) (hT : IsT L z (toldA k x z) (toldB k x y z) t w) (hX : IsZ Lx x X w) (hY : IsZ Ly y Y w) (hZ : IsZ Lw z Z w)
    (hL : L ≤ 17592186044416) (hLx : Lx ≤ 17592186044416) (hLy : Ly ≤ 17592186044416) (hLw : Lw ≤ 17592186044416) :
    Calls Try.prog 18 #[t, .int .i64 k, X, Y, Z] w (ResR (Is (.bool true)) w) := by
  by_cases h1 : k = 1
  · rw [show toldA k x z = z by simp [toldA, h1], show toldB k x y z = y by simp [toldB, h1]] at hT
    exact told_1 k L Lx Ly Lw x y z t X Y Z w hT hX hY hZ hL hLx hLy hLw (by simp [h1])
  · by_cases h2 : k = 2
    · rw [show toldA k x z = x by simp [toldA, h2], show toldB k x y z = z by simp [toldB, h2]] at hT
      exact told_2 k L Lx Ly Lw x y z t X Y Z w hT hX hY hZ hL hLx hLy hLw (by simp [h1]) (by simp [h2])
    · by_cases h3 : k = 3
      · rw [show toldA k x z = z by simp [toldA, h3], show toldB k x y z = z by simp [toldB, h3]] at hT
        exact told_3 k L Lx Ly Lw x y z t X Y Z w hT hX hY hZ hL hLx hLy hLw (by simp [h1]) (by simp [h2]) (by simp [h3])
      · by_cases h4 : k = 4
        · rw [show toldA k x z = x by simp [toldA, h4], show toldB k x y z = x by simp [toldB, h4]] at hT
          exact told_4 k L Lx Ly Lw x y z t X Y Z w hT hX hY hZ hL hLx hLy hLw (by simp [h1]) (by simp [h2]) (by simp [h3]) (by simp [h4])
        · rw [show toldA k x z = x by simp [toldA, h1, h3], show toldB k x y z = y by simp [toldB, h2, h3, h4]] at hT
          exact told_0 k L Lx Ly Lw x y z t X Y Z w hT hX hY hZ hL hLx hLy hLw (by simp [h1]) (by simp [h2]) (by simp [h3]) (by simp [h4])

end Go.Proofs.Ytacmojhladdalaa

