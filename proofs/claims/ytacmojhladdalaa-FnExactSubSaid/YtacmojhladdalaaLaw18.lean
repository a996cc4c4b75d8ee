/- spec.Sub, laws.second, FnExactAdd, FnExactSub (printed by lawgen.py). -/
import Derived.Test.YtacmojhladdalaaSpecAddZ
import Derived.Test.YtacmojhladdalaaImplAS
import Derived.Test.YtacmojhladdalaaTold
set_option linter.unusedSimpArgs false
set_option linter.unusedVariables false
namespace Go.Proofs.Ytacmojhladdalaa
open Go.RowKit

theorem second_z (k : Int) (L : Nat) (x y : Int) (X Y : Value) (w : World) (hX : IsZ L x X w) (hY : IsZ L y Y w) :
    Calls Try.prog 17 #[.int .i64 k, X, Y] w (ResR (IsZ L (secZ k x y)) w) := by
  obtain ⟨n1, a1, l1, c1, rfl⟩ := hX.form
  obtain ⟨n2, a2, l2, c2, rfl⟩ := hY.form
  have HX := Lib.hid hX
  have HY := Lib.hid hY
  clear hX hY
  generalize hs : secZ k x y = s
  have HS := Lib.hid hs
  clear hs
  have hE : ∀ o1 o2 o3, Ext w (((w.alloc o1).alloc o2).alloc o3) := fun o1 o2 o3 => ((Ext.alloc _ _).trans (Ext.alloc _ _)).trans (Ext.alloc _ _)
  by_cases h34 : k = 3 ∨ k = 4
  · have hsx : x = s := by rw [← HS.out, secZ, show isOne k = true by rcases h34 with h | h <;> simp [isOne, h]]; rfl
    subst hsx
    have h3 : (k == 3) = true ∨ (k == 3) = false ∧ (k == 4) = true := by
      rcases h34 with h | h
      · left; simp [h]
      · right; simp [h]
    clear h34
    rcases h3 with h3 | ⟨h3, h4⟩
    all_goals
      go_enter Try.func17, Try.ntmps17
      go_wp2_with fail
      have hp := heap_third' w (.cells #[.bool n1, .slice a1 l1 c1] 24) (.cells #[.bool n2, .slice a2 l2 c2] 24) (.cells #[.bool n1, .slice a1 l1 c1] 24)
      exact bodyPost_ret (results_laws rfl _ rfl (blk_cell hp 0) (blk_cell hp 1)) rfl ⟨hE _ _ _, _, rfl, HX.out.ext (hE _ _ _)⟩
  · have hsy : y = s := by rw [← HS.out, secZ, show isOne k = false by simp [isOne]; omega]; rfl
    subst hsy
    have h3 : (k == 3) = false := by simp; omega
    have h4 : (k == 4) = false := by simp; omega
    clear h34
    go_enter Try.func17, Try.ntmps17
    go_wp2_with fail
    have hp := heap_third' w (.cells #[.bool n1, .slice a1 l1 c1] 24) (.cells #[.bool n2, .slice a2 l2 c2] 24) (.cells #[.bool n2, .slice a2 l2 c2] 24)
    exact bodyPost_ret (results_laws rfl _ rfl (blk_cell hp 0) (blk_cell hp 1)) rfl ⟨hE _ _ _, _, rfl, HY.out.ext (hE _ _ _)⟩

theorem told_A (k x z : Int) : toldA k x z = aftX k z x := by
  unfold toldA aftX isX
  by_cases h1 : k = 1 <;> by_cases h3 : k = 3 <;> simp [h1, h3]

theorem told_B (k x y z : Int) : toldB k x y z = aftY k z (secZ k x y) := by
  unfold toldB aftY secZ isY isOne
  by_cases h2 : k = 2 <;> by_cases h3 : k = 3 <;> by_cases h4 : k = 4 <;> simp [h2, h3, h4] <;> omega

def At2 (n0 : Nat) (v : Value) (w : World) : Prop := ∃ p, v = .pointer (some ⟨p, 0, none⟩) ∧ w.heap[p]? = some (.cells #[.bool false, .slice none 0 0] 25 (0, 0)) ∧ n0 ≤ p

theorem At2.ext {n0 : Nat} {v : Value} {w w' : World} (h : At2 n0 v w) (he : Ext w w') : At2 n0 v w' := by
  obtain ⟨p, h1, h2, h3⟩ := h
  exact ⟨p, h1, he.block h2, h3⟩

set_option maxHeartbeats 1000000 in
theorem specSub_z (L : Nat) (x y : Int) (x0 : Value) (x1 : Value) (w : World)  (hz0 : IsZ (L) (x) x0 w)  (hz1 : IsZ (L) (y) x1 w) (hL : L + 1 ≤ 17592186044416) :
    Calls Try.prog 22 #[x0, x1] w (ResR (IsC (L + 1) (x - y)) w) := by
  obtain ⟨n0, a0, l0, c0, rfl⟩ := hz0.form
  have HZ0 := Lib.hid hz0
  clear hz0
  obtain ⟨n1, a1, l1, c1, rfl⟩ := hz1.form
  have HZ1 := Lib.hid hz1
  clear hz1
  go_enter Try.func22, Try.ntmps22
  go_wp2_with fail
  refine wp_region_D preExt mixed [IsZ (L) (x), IsZ (L) (y), IsC (L) (-(y)), IsC ((L + 1)) ((x) + (-(y)))] (by kernel_rfl) ?mono rfl ?steps ?last
  case mono =>
    simp only [List.forall_mem_cons, List.not_mem_nil, false_implies, implies_true, and_true]
    refine ⟨?_, ?_, ?_, ?_⟩
    all_goals first | exact fun _ _ _ _ q => q | exact fun _ _ _ he q => q.ext he
  case steps =>
    refine ⟨?_, ?_, ?_, ?_, trivial⟩
    all_goals
      intro u0 u1 u2 u3 u4 w1 he hk
      simp [KnownD, Oper.looksAt, Op.operands, Call.operands, List.findIdx?_cons, Act.put] at hk
      simp only [Act.put, List.setIfInBounds_toArray, List.set_cons_succ, List.set_cons_zero]
    · have hb := he.block ((Ext.alloc _ _).block ((Ext.alloc _ _).block (heap_alloc_new _ _)))
      have hc0 := blk_cell hb 0
      have hc1 := blk_cell hb 1
      simp at hc0 hc1
      clear hb
      go_wp2_with fail
      exact ⟨rfl, Ext.refl _, HZ0.out.ext ((((Ext.alloc _ _).trans (Ext.alloc _ _)).trans (Ext.alloc _ _)).trans he)⟩
    · have hb := he.block ((Ext.alloc _ _).block (heap_second _ _ _))
      have hc0 := blk_cell hb 0
      have hc1 := blk_cell hb 1
      simp at hc0 hc1
      clear hb
      go_wp2_with fail
      exact ⟨rfl, Ext.refl _, HZ1.out.ext ((((Ext.alloc _ _).trans (Ext.alloc _ _)).trans (Ext.alloc _ _)).trans he)⟩
    · have k0 := hk
      have H0 := Lib.hid k0
      clear k0
      go_wp2_with fail
      refine (specNeg_z (L) (y) _ _ (H0.out) (by omega)).mono ?_
      rintro e w2 ⟨he2, x, rfl, hx⟩
      have HX := Lib.hid hx
      clear hx
      go_wp2_with fail
      exact ⟨rfl, he2, HX.out⟩
    · obtain ⟨k0, k1⟩ := hk
      have H0 := Lib.hid k0
      have H1 : Hid (IsC (L) (-(y)) u2 w1) := Lib.hid (by first | exact k1 | simpa using k1)
      clear k0 k1
      go_wp2_with fail
      refine (specAdd_z L (x) (-(y)) _ _ _ (H0.out) (H1.out.z) (by omega)).mono ?_
      rintro e w2 ⟨he2, x, rfl, hx⟩
      have HX := Lib.hid hx
      clear hx
      go_wp2_with fail
      exact ⟨rfl, he2, HX.out⟩
  case last =>
    intro w1 he u0 h0 u1 h1 u2 h2 u3 h3
    have hy : IsC (L + 1) (x - y) u3 w1 := h3
    clear h0 h1 h2 h3
    obtain ⟨m, aa, ll, cc, rfl⟩ := hy.form
    have hp : w1.heap[w.heap.size + 1 + 1]? = some (.cells #[.bool false, .slice none 0 0] 25 (0, 0)) := he.block (heap_third' _ _ _ _)
    have d0 := blk_cell hp 0
    have d1 := blk_cell hp 1
    have f0 := blk_free hp 0
    have f1 := blk_free hp 1
    simp at d0 d1
    have HP := Lib.hid hp
    have HY := Lib.hid hy
    have HE := Lib.hid ((((Ext.alloc _ _).trans (Ext.alloc _ _)).trans (Ext.alloc _ _)).trans he)
    clear hp hy he
    simp only [LastD, Act.put, List.setIfInBounds_toArray, List.set_cons_succ, List.set_cons_zero]
    go_wp2_with fail
    obtain ⟨e0, e1, hu⟩ := set2 HP.out (.bool m) (.slice aa ll cc)
    exact bodyPost_ret (results_spec rfl _ rfl e0 e1) rfl ⟨hu.ext HE.out (by omega), _, rfl, HY.out.upd HP.out (by decide) hu⟩


set_option maxRecDepth 10000 in
set_option maxHeartbeats 2000000 in
theorem fnExactAdd_walk (k : Int) (n1 : Bool) (v1 : Value) (ws1 : List Nat) (n2 : Bool) (v2 : Value) (ws2 : List Nat) (n3 : Bool) (v3 : Value) (ws3 : List Nat) (w : World) (hk : (Lit.int .i64 k).wf = true) (hr1 : Rd .u64 w v1 ws1) (hl1 : ws1.length ≤ 17592186043904) (hr2 : Rd .u64 w v2 ws2) (hl2 : ws2.length ≤ 17592186043904) (hr3 : Rd .u64 w v3 ws3) (hl3 : ws3.length ≤ 17592186043904) :
    Calls Try.prog 3 #[.int .i64 k, .agg #[.bool n1, v1], .agg #[.bool n2, v2], .agg #[.bool n3, v3]] w (ValR (.bool true) w) := by
  clear hk
  obtain ⟨a1, c1, rfl⟩ := hr1.form
  have hz1 : IsZ 17592186043904 (ival n1 ws1) (.agg #[.bool n1, .slice a1 ws1.length c1]) w := ⟨n1, _, ws1, rfl, hr1, hl1, rfl⟩
  generalize ival n1 ws1 = zz at hz1
  have HZ1 := Lib.hid hz1
  clear hz1 hr1
  obtain ⟨a2, c2, rfl⟩ := hr2.form
  have hz2 : IsZ 17592186043904 (ival n2 ws2) (.agg #[.bool n2, .slice a2 ws2.length c2]) w := ⟨n2, _, ws2, rfl, hr2, hl2, rfl⟩
  generalize ival n2 ws2 = x at hz2
  have HZ2 := Lib.hid hz2
  clear hz2 hr2
  obtain ⟨a3, c3, rfl⟩ := hr3.form
  have hz3 : IsZ 17592186043904 (ival n3 ws3) (.agg #[.bool n3, .slice a3 ws3.length c3]) w := ⟨n3, _, ws3, rfl, hr3, hl3, rfl⟩
  generalize ival n3 ws3 = y at hz3
  have HZ3 := Lib.hid hz3
  clear hz3 hr3
  go_enter Try.func3, Try.ntmps3
  go_wp2_with fail
  have g1 := (Ext.alloc ((w.alloc (.cells #[.bool n1, .slice a1 ws1.length c1] 24)).alloc (.cells #[.bool n2, .slice a2 ws2.length c2] 24)) (.cells #[.bool n3, .slice a3 ws3.length c3] 24)).block ((Ext.alloc _ _).block (heap_alloc_new w (.cells #[.bool n1, .slice a1 ws1.length c1] 24)))
  have g2 := (Ext.alloc ((w.alloc (.cells #[.bool n1, .slice a1 ws1.length c1] 24)).alloc (.cells #[.bool n2, .slice a2 ws2.length c2] 24)) (.cells #[.bool n3, .slice a3 ws3.length c3] 24)).block (heap_second w (.cells #[.bool n1, .slice a1 ws1.length c1] 24) (.cells #[.bool n2, .slice a2 ws2.length c2] 24))
  have g3 := heap_third' w (.cells #[.bool n1, .slice a1 ws1.length c1] 24) (.cells #[.bool n2, .slice a2 ws2.length c2] 24) (.cells #[.bool n3, .slice a3 ws3.length c3] 24)
  have hE0 : Ext w (((w.alloc (.cells #[.bool n1, .slice a1 ws1.length c1] 24)).alloc (.cells #[.bool n2, .slice a2 ws2.length c2] 24)).alloc (.cells #[.bool n3, .slice a3 ws3.length c3] 24)) := ((Ext.alloc _ _).trans (Ext.alloc _ _)).trans (Ext.alloc _ _)
  have hsz3 : (((w.alloc (.cells #[.bool n1, .slice a1 ws1.length c1] 24)).alloc (.cells #[.bool n2, .slice a2 ws2.length c2] 24)).alloc (.cells #[.bool n3, .slice a3 ws3.length c3] 24)).heap.size = w.heap.size + 1 + 1 + 1 := by simp
  generalize (((w.alloc (.cells #[.bool n1, .slice a1 ws1.length c1] 24)).alloc (.cells #[.bool n2, .slice a2 ws2.length c2] 24)).alloc (.cells #[.bool n3, .slice a3 ws3.length c3] 24)) = w4 at *
  generalize hn0 : w4.heap.size = N0 at *
  have HE0 := Lib.hid hE0
  have G1 := Lib.hid g1
  have G2 := Lib.hid g2
  have G3 := Lib.hid g3
  have HSZ3 := Lib.hid hsz3
  clear g1 g2 g3 hE0 hsz3
  refine wp_region_D preExt mixed [IsZ (17592186043904) (x), IsW (17592186043904) (x), Is (.int .i64 k), IsZ (17592186043904) (x), IsZ (17592186043904) (y), IsZ (17592186043904) (secZ k x y), IsW (17592186043904) (secZ k x y), IsC (17592186043905) (x + secZ k x y), At2 N0] (by kernel_rfl) ?mono rfl ?steps ?last
  case mono =>
    simp only [List.forall_mem_cons, List.not_mem_nil, false_implies, implies_true, and_true]
    refine ⟨?_, ?_, ?_, ?_, ?_, ?_, ?_, ?_, ?_⟩
    all_goals first | exact fun _ _ _ _ q => q | exact fun _ _ _ he q => q.ext he
  case steps =>
    refine ⟨?_, ?_, ?_, ?_, ?_, ?_, ?_, ?_, ?_, trivial⟩
    all_goals
      intro u0 u1 u2 u3 u4 u5 u6 u7 u8 u9 w1 he hk
      simp [KnownD, Oper.looksAt, Op.operands, Call.operands, List.findIdx?_cons, Act.put] at hk
      simp only [Act.put, List.setIfInBounds_toArray, List.set_cons_succ, List.set_cons_zero]
    · have hb := he.block G2.out
      have q0 := blk_cell hb 0
      have q1 := blk_cell hb 1
      simp at q0 q1
      clear hb
      go_wp2_with fail
      exact ⟨rfl, Ext.refl _, HZ2.out.ext (HE0.out.trans he)⟩
    · have k0 := hk
      have H0 := Lib.hid k0
      clear k0
      go_wp2_with fail
      refine (toSpec_z (17592186043904) (x) _ _ (H0.out) (by omega)).mono ?_
      rintro e w2 ⟨he2, x, rfl, hx⟩
      have HX := Lib.hid hx
      clear hx
      go_wp2_with fail
      exact ⟨rfl, he2, HX.out⟩
    · go_wp2_with fail
      exact ⟨rfl, Ext.refl _, by show (_ : Value) = _; (first | rfl | simp); try rfl⟩
    · have hb := he.block G2.out
      have q0 := blk_cell hb 0
      have q1 := blk_cell hb 1
      simp at q0 q1
      clear hb
      go_wp2_with fail
      exact ⟨rfl, Ext.refl _, HZ2.out.ext (HE0.out.trans he)⟩
    · have hb := he.block G3.out
      have q0 := blk_cell hb 0
      have q1 := blk_cell hb 1
      simp at q0 q1
      clear hb
      go_wp2_with fail
      exact ⟨rfl, Ext.refl _, HZ3.out.ext (HE0.out.trans he)⟩
    · obtain ⟨k0, k1, k2⟩ := hk
      obtain rfl : u2 = .int .i64 k := k0
      have H1 := Lib.hid k1
      have H2 := Lib.hid k2
      clear k1 k2
      go_wp2_with fail
      refine (second_z k (17592186043904) x y _ _ _ H1.out H2.out).mono ?_
      rintro e w2 ⟨he2, x, rfl, hx⟩
      have HX := Lib.hid hx
      clear hx
      go_wp2_with fail
      exact ⟨rfl, he2, HX.out⟩
    · have k0 := hk
      have H0 : Hid (IsZ (17592186043904) (secZ k x y) u5 w1) := Lib.hid (by first | exact k0 | simpa using k0)
      clear k0
      go_wp2_with fail
      refine (toSpec_z (17592186043904) (secZ k x y) _ _ (H0.out) (by omega)).mono ?_
      rintro e w2 ⟨he2, x, rfl, hx⟩
      have HX := Lib.hid hx
      clear hx
      go_wp2_with fail
      exact ⟨rfl, he2, HX.out⟩
    · obtain ⟨k0, k1⟩ := hk
      have H0 := Lib.hid k0
      have H1 : Hid (IsW (17592186043904) (secZ k x y) u6 w1) := Lib.hid (by first | exact k1 | simpa using k1)
      clear k0 k1
      go_wp2_with fail
      refine (specAdd_z (17592186043904) (x) (secZ k x y) _ _ _ (H0.out.z) (H1.out.z) (by omega)).mono ?_
      rintro e w2 ⟨he2, x, rfl, hx⟩
      have HX := Lib.hid hx
      clear hx
      go_wp2_with fail
      exact ⟨rfl, he2, HX.out⟩
    · have hsz : N0 ≤ w1.heap.size := by have := he.size; omega
      go_wp2_with fail
      exact ⟨rfl, Ext.alloc _ _, _, rfl, heap_alloc_new _ _, hsz⟩
  case last =>
    rename_i K aK
    have AK := Lib.hid aK
    clear aK
    intro w5 he u0 h0 u1 h1 u2 h2 u3 h3 u4 h4 u5 h5 u6 h6 u7 h7 u8 h8
    obtain ⟨p, rfl, hp, hge⟩ := h8
    have hy : IsC 17592186043905 (x + secZ k x y) u7 w5 := h7
    clear h0 h1 h2 h3 h4 h5 h6 h7
    obtain ⟨m, aa, ll, cc, rfl⟩ := hy.form
    simp only [LastD, Act.put, List.setIfInBounds_toArray, List.set_cons_succ, List.set_cons_zero]
    have d0 := blk_cell hp 0
    have d1 := blk_cell hp 1
    have f0 := blk_free hp 0
    have f1 := blk_free hp 1
    simp at d0 d1
    have HP := Lib.hid hp
    have HY := Lib.hid hy
    have HE5 := Lib.hid he
    have HGE := Lib.hid hge
    clear hp hy he hge
    go_wp2_with fail
    obtain ⟨e0, e1, hu⟩ := set2 HP.out (.bool m) (.slice aa ll cc)
    have q9 := blk2_set1 (blk2_set0 HP.out (.bool m)) (.slice aa ll cc)
    change K _ ((w5.setCell ⟨p, 0, none⟩ (.bool m)).setCell ⟨p, 1, none⟩ (.slice aa ll cc))
    have HW7 := Lib.hid (HY.out.upd HP.out (by decide) hu)
    have HE7 := Lib.hid (hu.ext (HE0.out.trans HE5.out) (by intro i hi; subst hi; have := HGE.out; have := HSZ3.out; omega))
    have q1 := hu.heap (HE5.out.block G1.out) (by have := HGE.out; have := HSZ3.out; omega)
    have q2 := hu.heap (HE5.out.block G2.out) (by have := HGE.out; have := HSZ3.out; omega)
    have q3 := hu.heap (HE5.out.block G3.out) (by have := HGE.out; have := HSZ3.out; omega)
    generalize ((w5.setCell ⟨p, 0, none⟩ (.bool m)).setCell ⟨p, 1, none⟩ (.slice aa ll cc)) = w7 at *
    have Q1 := Lib.hid q1
    have Q2 := Lib.hid q2
    have Q3 := Lib.hid q3
    have Q9 := Lib.hid q9
    clear q1 q2 q3 q9 e0 e1 hu d0 d1 f0 f1 HP HY HE5 HE0 G1 G2 G3
    refine AK.out _ _ ?_
    clear AK
    go_wp2_with fail

    refine wp_region_D preExt mixed [Is (.int .i64 k), IsZ (17592186043904) (zz), IsW (17592186043904) (zz), IsZ (17592186043904) (x), IsW (17592186043904) (x), IsZ (17592186043904) (y), IsW (17592186043904) (y), IsT (17592186043905) (x + secZ k x y) (aftX k (x + secZ k x y) x) (aftY k (x + secZ k x y) (secZ k x y)), Is (.int .i64 k), IsZ (17592186043904) (x), IsZ (17592186043904) (y), IsC (17592186043905) (x + secZ k x y), IsW (17592186043905) (x + secZ k x y), Is (.bool true)] (by kernel_rfl) ?mono rfl ?steps ?last
    case mono =>
      simp only [List.forall_mem_cons, List.not_mem_nil, false_implies, implies_true, and_true]
      refine ⟨?_, ?_, ?_, ?_, ?_, ?_, ?_, ?_, ?_, ?_, ?_, ?_, ?_, ?_⟩
      all_goals first | exact fun _ _ _ _ q => q | exact fun _ _ _ he q => q.ext he
    case steps =>
      refine ⟨?_, ?_, ?_, ?_, ?_, ?_, ?_, ?_, ?_, ?_, ?_, ?_, ?_, ?_, trivial⟩
      all_goals
        intro u0 u1 u2 u3 u4 u5 u6 u7 u8 u9 u10 u11 u12 u13 u14 w1 he hk
        simp [KnownD, Oper.looksAt, Op.operands, Call.operands, List.findIdx?_cons, Act.put] at hk
        simp only [Act.put, List.setIfInBounds_toArray, List.set_cons_succ, List.set_cons_zero]
      · go_wp2_with fail
        exact ⟨rfl, Ext.refl _, by show (_ : Value) = _; (first | rfl | simp); try rfl⟩
      · have hb := he.block Q1.out
        have q0 := blk_cell hb 0
        have q1 := blk_cell hb 1
        simp at q0 q1
        clear hb
        go_wp2_with fail
        exact ⟨rfl, Ext.refl _, HZ1.out.ext (HE7.out.trans he)⟩
      · have k0 := hk
        have H0 := Lib.hid k0
        clear k0
        go_wp2_with fail
        refine (toImpl_z (17592186043904) (zz) _ _ (H0.out) (by omega)).mono ?_
        rintro e w2 ⟨he2, x, rfl, hx⟩
        have HX := Lib.hid hx
        clear hx
        go_wp2_with fail
        exact ⟨rfl, he2, HX.out⟩
      · have hb := he.block Q2.out
        have q0 := blk_cell hb 0
        have q1 := blk_cell hb 1
        simp at q0 q1
        clear hb
        go_wp2_with fail
        exact ⟨rfl, Ext.refl _, HZ2.out.ext (HE7.out.trans he)⟩
      · have k0 := hk
        have H0 := Lib.hid k0
        clear k0
        go_wp2_with fail
        refine (toImpl_z (17592186043904) (x) _ _ (H0.out) (by omega)).mono ?_
        rintro e w2 ⟨he2, x, rfl, hx⟩
        have HX := Lib.hid hx
        clear hx
        go_wp2_with fail
        exact ⟨rfl, he2, HX.out⟩
      · have hb := he.block Q3.out
        have q0 := blk_cell hb 0
        have q1 := blk_cell hb 1
        simp at q0 q1
        clear hb
        go_wp2_with fail
        exact ⟨rfl, Ext.refl _, HZ3.out.ext (HE7.out.trans he)⟩
      · have k0 := hk
        have H0 := Lib.hid k0
        clear k0
        go_wp2_with fail
        refine (toImpl_z (17592186043904) (y) _ _ (H0.out) (by omega)).mono ?_
        rintro e w2 ⟨he2, x, rfl, hx⟩
        have HX := Lib.hid hx
        clear hx
        go_wp2_with fail
        exact ⟨rfl, he2, HX.out⟩
      · obtain ⟨k0, k1, k2, k3⟩ := hk
        obtain rfl : u0 = .int .i64 k := k0
        have H1 := Lib.hid k1
        have H2 := Lib.hid k2
        have H3 := Lib.hid k3
        clear k1 k2 k3
        go_wp2_with fail
        refine (implAdd_z k (17592186043904) (zz) (x) (y) _ _ _ _ (H1.out.z) (H2.out.z) (H3.out.z) (by omega)).mono ?_
        rintro e w2 ⟨he2, x, rfl, hx⟩
        have HX := Lib.hid hx
        clear hx
        go_wp2_with fail
        exact ⟨rfl, he2, HX.out⟩
      · go_wp2_with fail
        exact ⟨rfl, Ext.refl _, by show (_ : Value) = _; (first | rfl | simp); try rfl⟩
      · have hb := he.block Q2.out
        have q0 := blk_cell hb 0
        have q1 := blk_cell hb 1
        simp at q0 q1
        clear hb
        go_wp2_with fail
        exact ⟨rfl, Ext.refl _, HZ2.out.ext (HE7.out.trans he)⟩
      · have hb := he.block Q3.out
        have q0 := blk_cell hb 0
        have q1 := blk_cell hb 1
        simp at q0 q1
        clear hb
        go_wp2_with fail
        exact ⟨rfl, Ext.refl _, HZ3.out.ext (HE7.out.trans he)⟩
      · have hb := he.block Q9.out
        have q0 := blk_cell hb 0
        have q1 := blk_cell hb 1
        simp at q0 q1
        clear hb
        go_wp2_with fail
        exact ⟨rfl, Ext.refl _, HW7.out.ext he⟩
      · have k0 := hk
        have H0 : Hid (IsC (17592186043905) (x + secZ k x y) u11 w1) := Lib.hid (by first | exact k0 | simpa using k0)
        clear k0
        go_wp2_with fail
        refine (fromSpec_z (17592186043905) (x + secZ k x y) _ _ (H0.out.w)).mono ?_
        rintro e w2 ⟨he2, x, rfl, hx⟩
        have HX := Lib.hid hx
        clear hx
        go_wp2_with fail
        exact ⟨rfl, he2, HX.out⟩
      · obtain ⟨k0, k1, k2, k3, k4⟩ := hk
        obtain rfl : u8 = .int .i64 k := k1
        have H0 := Lib.hid k0
        have H2 := Lib.hid k2
        have H3 := Lib.hid k3
        have H4 : Hid (IsW (17592186043905) (x + secZ k x y) u12 w1) := Lib.hid (by first | exact k4 | simpa using k4)
        clear k0 k2 k3 k4
        go_wp2_with fail
        refine (told_z k (17592186043905) (17592186043904) (17592186043904) (17592186043905) x y (x + secZ k x y) _ _ _ _ _ (by rw [told_A, told_B]; exact H0.out) (H2.out) (H3.out) (H4.out.z) (by omega) (by omega) (by omega) (by omega)).mono ?_
        rintro e w2 ⟨he2, x, rfl, hx⟩
        obtain rfl : x = .bool true := hx
        go_wp2_with fail
        exact ⟨rfl, he2, rfl⟩
    case last =>
      intro w1 he u0 h0 u1 h1 u2 h2 u3 h3 u4 h4 u5 h5 u6 h6 u7 h7 u8 h8 u9 h9 u10 h10 u11 h11 u12 h12 u13 h13
      obtain rfl : u13 = .bool true := h13
      clear h0 h1 h2 h3 h4 h5 h6 h7 h8 h9 h10 h11 h12
      simp only [LastD, Act.put, List.setIfInBounds_toArray, List.set_cons_succ, List.set_cons_zero]
      have HE := Lib.hid ((HE7.out).trans he)
      clear he
      go_wp2_with fail
      go_ret
      exact ⟨HE.out, rfl⟩



set_option maxRecDepth 10000 in
set_option maxHeartbeats 2000000 in
theorem fnExactSub_walk (k : Int) (n1 : Bool) (v1 : Value) (ws1 : List Nat) (n2 : Bool) (v2 : Value) (ws2 : List Nat) (n3 : Bool) (v3 : Value) (ws3 : List Nat) (w : World) (hk : (Lit.int .i64 k).wf = true) (hr1 : Rd .u64 w v1 ws1) (hl1 : ws1.length ≤ 17592186043904) (hr2 : Rd .u64 w v2 ws2) (hl2 : ws2.length ≤ 17592186043904) (hr3 : Rd .u64 w v3 ws3) (hl3 : ws3.length ≤ 17592186043904) :
    Calls Try.prog 4 #[.int .i64 k, .agg #[.bool n1, v1], .agg #[.bool n2, v2], .agg #[.bool n3, v3]] w (ValR (.bool true) w) := by
  clear hk
  obtain ⟨a1, c1, rfl⟩ := hr1.form
  have hz1 : IsZ 17592186043904 (ival n1 ws1) (.agg #[.bool n1, .slice a1 ws1.length c1]) w := ⟨n1, _, ws1, rfl, hr1, hl1, rfl⟩
  generalize ival n1 ws1 = zz at hz1
  have HZ1 := Lib.hid hz1
  clear hz1 hr1
  obtain ⟨a2, c2, rfl⟩ := hr2.form
  have hz2 : IsZ 17592186043904 (ival n2 ws2) (.agg #[.bool n2, .slice a2 ws2.length c2]) w := ⟨n2, _, ws2, rfl, hr2, hl2, rfl⟩
  generalize ival n2 ws2 = x at hz2
  have HZ2 := Lib.hid hz2
  clear hz2 hr2
  obtain ⟨a3, c3, rfl⟩ := hr3.form
  have hz3 : IsZ 17592186043904 (ival n3 ws3) (.agg #[.bool n3, .slice a3 ws3.length c3]) w := ⟨n3, _, ws3, rfl, hr3, hl3, rfl⟩
  generalize ival n3 ws3 = y at hz3
  have HZ3 := Lib.hid hz3
  clear hz3 hr3
  go_enter Try.func4, Try.ntmps4
  go_wp2_with fail
  have g1 := (Ext.alloc ((w.alloc (.cells #[.bool n1, .slice a1 ws1.length c1] 24)).alloc (.cells #[.bool n2, .slice a2 ws2.length c2] 24)) (.cells #[.bool n3, .slice a3 ws3.length c3] 24)).block ((Ext.alloc _ _).block (heap_alloc_new w (.cells #[.bool n1, .slice a1 ws1.length c1] 24)))
  have g2 := (Ext.alloc ((w.alloc (.cells #[.bool n1, .slice a1 ws1.length c1] 24)).alloc (.cells #[.bool n2, .slice a2 ws2.length c2] 24)) (.cells #[.bool n3, .slice a3 ws3.length c3] 24)).block (heap_second w (.cells #[.bool n1, .slice a1 ws1.length c1] 24) (.cells #[.bool n2, .slice a2 ws2.length c2] 24))
  have g3 := heap_third' w (.cells #[.bool n1, .slice a1 ws1.length c1] 24) (.cells #[.bool n2, .slice a2 ws2.length c2] 24) (.cells #[.bool n3, .slice a3 ws3.length c3] 24)
  have hE0 : Ext w (((w.alloc (.cells #[.bool n1, .slice a1 ws1.length c1] 24)).alloc (.cells #[.bool n2, .slice a2 ws2.length c2] 24)).alloc (.cells #[.bool n3, .slice a3 ws3.length c3] 24)) := ((Ext.alloc _ _).trans (Ext.alloc _ _)).trans (Ext.alloc _ _)
  have hsz3 : (((w.alloc (.cells #[.bool n1, .slice a1 ws1.length c1] 24)).alloc (.cells #[.bool n2, .slice a2 ws2.length c2] 24)).alloc (.cells #[.bool n3, .slice a3 ws3.length c3] 24)).heap.size = w.heap.size + 1 + 1 + 1 := by simp
  generalize (((w.alloc (.cells #[.bool n1, .slice a1 ws1.length c1] 24)).alloc (.cells #[.bool n2, .slice a2 ws2.length c2] 24)).alloc (.cells #[.bool n3, .slice a3 ws3.length c3] 24)) = w4 at *
  generalize hn0 : w4.heap.size = N0 at *
  have HE0 := Lib.hid hE0
  have G1 := Lib.hid g1
  have G2 := Lib.hid g2
  have G3 := Lib.hid g3
  have HSZ3 := Lib.hid hsz3
  clear g1 g2 g3 hE0 hsz3
  refine wp_region_D preExt mixed [IsZ (17592186043904) (x), IsW (17592186043904) (x), Is (.int .i64 k), IsZ (17592186043904) (x), IsZ (17592186043904) (y), IsZ (17592186043904) (secZ k x y), IsW (17592186043904) (secZ k x y), IsC (17592186043905) (x - secZ k x y), At2 N0] (by kernel_rfl) ?mono rfl ?steps ?last
  case mono =>
    simp only [List.forall_mem_cons, List.not_mem_nil, false_implies, implies_true, and_true]
    refine ⟨?_, ?_, ?_, ?_, ?_, ?_, ?_, ?_, ?_⟩
    all_goals first | exact fun _ _ _ _ q => q | exact fun _ _ _ he q => q.ext he
  case steps =>
    refine ⟨?_, ?_, ?_, ?_, ?_, ?_, ?_, ?_, ?_, trivial⟩
    all_goals
      intro u0 u1 u2 u3 u4 u5 u6 u7 u8 u9 w1 he hk
      simp [KnownD, Oper.looksAt, Op.operands, Call.operands, List.findIdx?_cons, Act.put] at hk
      simp only [Act.put, List.setIfInBounds_toArray, List.set_cons_succ, List.set_cons_zero]
    · have hb := he.block G2.out
      have q0 := blk_cell hb 0
      have q1 := blk_cell hb 1
      simp at q0 q1
      clear hb
      go_wp2_with fail
      exact ⟨rfl, Ext.refl _, HZ2.out.ext (HE0.out.trans he)⟩
    · have k0 := hk
      have H0 := Lib.hid k0
      clear k0
      go_wp2_with fail
      refine (toSpec_z (17592186043904) (x) _ _ (H0.out) (by omega)).mono ?_
      rintro e w2 ⟨he2, x, rfl, hx⟩
      have HX := Lib.hid hx
      clear hx
      go_wp2_with fail
      exact ⟨rfl, he2, HX.out⟩
    · go_wp2_with fail
      exact ⟨rfl, Ext.refl _, by show (_ : Value) = _; (first | rfl | simp); try rfl⟩
    · have hb := he.block G2.out
      have q0 := blk_cell hb 0
      have q1 := blk_cell hb 1
      simp at q0 q1
      clear hb
      go_wp2_with fail
      exact ⟨rfl, Ext.refl _, HZ2.out.ext (HE0.out.trans he)⟩
    · have hb := he.block G3.out
      have q0 := blk_cell hb 0
      have q1 := blk_cell hb 1
      simp at q0 q1
      clear hb
      go_wp2_with fail
      exact ⟨rfl, Ext.refl _, HZ3.out.ext (HE0.out.trans he)⟩
    · obtain ⟨k0, k1, k2⟩ := hk
      obtain rfl : u2 = .int .i64 k := k0
      have H1 := Lib.hid k1
      have H2 := Lib.hid k2
      clear k1 k2
      go_wp2_with fail
      refine (second_z k (17592186043904) x y _ _ _ H1.out H2.out).mono ?_
      rintro e w2 ⟨he2, x, rfl, hx⟩
      have HX := Lib.hid hx
      clear hx
      go_wp2_with fail
      exact ⟨rfl, he2, HX.out⟩
    · have k0 := hk
      have H0 : Hid (IsZ (17592186043904) (secZ k x y) u5 w1) := Lib.hid (by first | exact k0 | simpa using k0)
      clear k0
      go_wp2_with fail
      refine (toSpec_z (17592186043904) (secZ k x y) _ _ (H0.out) (by omega)).mono ?_
      rintro e w2 ⟨he2, x, rfl, hx⟩
      have HX := Lib.hid hx
      clear hx
      go_wp2_with fail
      exact ⟨rfl, he2, HX.out⟩
    · obtain ⟨k0, k1⟩ := hk
      have H0 := Lib.hid k0
      have H1 : Hid (IsW (17592186043904) (secZ k x y) u6 w1) := Lib.hid (by first | exact k1 | simpa using k1)
      clear k0 k1
      go_wp2_with fail
      refine (specSub_z (17592186043904) (x) (secZ k x y) _ _ _ (H0.out.z) (H1.out.z) (by omega)).mono ?_
      rintro e w2 ⟨he2, x, rfl, hx⟩
      have HX := Lib.hid hx
      clear hx
      go_wp2_with fail
      exact ⟨rfl, he2, HX.out⟩
    · have hsz : N0 ≤ w1.heap.size := by have := he.size; omega
      go_wp2_with fail
      exact ⟨rfl, Ext.alloc _ _, _, rfl, heap_alloc_new _ _, hsz⟩
  case last =>
    rename_i K aK
    have AK := Lib.hid aK
    clear aK
    intro w5 he u0 h0 u1 h1 u2 h2 u3 h3 u4 h4 u5 h5 u6 h6 u7 h7 u8 h8
    obtain ⟨p, rfl, hp, hge⟩ := h8
    have hy : IsC 17592186043905 (x - secZ k x y) u7 w5 := h7
    clear h0 h1 h2 h3 h4 h5 h6 h7
    obtain ⟨m, aa, ll, cc, rfl⟩ := hy.form
    simp only [LastD, Act.put, List.setIfInBounds_toArray, List.set_cons_succ, List.set_cons_zero]
    have d0 := blk_cell hp 0
    have d1 := blk_cell hp 1
    have f0 := blk_free hp 0
    have f1 := blk_free hp 1
    simp at d0 d1
    have HP := Lib.hid hp
    have HY := Lib.hid hy
    have HE5 := Lib.hid he
    have HGE := Lib.hid hge
    clear hp hy he hge
    go_wp2_with fail
    obtain ⟨e0, e1, hu⟩ := set2 HP.out (.bool m) (.slice aa ll cc)
    have q9 := blk2_set1 (blk2_set0 HP.out (.bool m)) (.slice aa ll cc)
    change K _ ((w5.setCell ⟨p, 0, none⟩ (.bool m)).setCell ⟨p, 1, none⟩ (.slice aa ll cc))
    have HW7 := Lib.hid (HY.out.upd HP.out (by decide) hu)
    have HE7 := Lib.hid (hu.ext (HE0.out.trans HE5.out) (by intro i hi; subst hi; have := HGE.out; have := HSZ3.out; omega))
    have q1 := hu.heap (HE5.out.block G1.out) (by have := HGE.out; have := HSZ3.out; omega)
    have q2 := hu.heap (HE5.out.block G2.out) (by have := HGE.out; have := HSZ3.out; omega)
    have q3 := hu.heap (HE5.out.block G3.out) (by have := HGE.out; have := HSZ3.out; omega)
    generalize ((w5.setCell ⟨p, 0, none⟩ (.bool m)).setCell ⟨p, 1, none⟩ (.slice aa ll cc)) = w7 at *
    have Q1 := Lib.hid q1
    have Q2 := Lib.hid q2
    have Q3 := Lib.hid q3
    have Q9 := Lib.hid q9
    clear q1 q2 q3 q9 e0 e1 hu d0 d1 f0 f1 HP HY HE5 HE0 G1 G2 G3
    refine AK.out _ _ ?_
    clear AK
    go_wp2_with fail

    refine wp_region_D preExt mixed [Is (.int .i64 k), IsZ (17592186043904) (zz), IsW (17592186043904) (zz), IsZ (17592186043904) (x), IsW (17592186043904) (x), IsZ (17592186043904) (y), IsW (17592186043904) (y), IsT (17592186043905) (x - secZ k x y) (aftX k (x - secZ k x y) x) (aftY k (x - secZ k x y) (secZ k x y)), Is (.int .i64 k), IsZ (17592186043904) (x), IsZ (17592186043904) (y), IsC (17592186043905) (x - secZ k x y), IsW (17592186043905) (x - secZ k x y), Is (.bool true)] (by kernel_rfl) ?mono rfl ?steps ?last
    case mono =>
      simp only [List.forall_mem_cons, List.not_mem_nil, false_implies, implies_true, and_true]
      refine ⟨?_, ?_, ?_, ?_, ?_, ?_, ?_, ?_, ?_, ?_, ?_, ?_, ?_, ?_⟩
      all_goals first | exact fun _ _ _ _ q => q | exact fun _ _ _ he q => q.ext he
    case steps =>
      refine ⟨?_, ?_, ?_, ?_, ?_, ?_, ?_, ?_, ?_, ?_, ?_, ?_, ?_, ?_, trivial⟩
      all_goals
        intro u0 u1 u2 u3 u4 u5 u6 u7 u8 u9 u10 u11 u12 u13 u14 w1 he hk
        simp [KnownD, Oper.looksAt, Op.operands, Call.operands, List.findIdx?_cons, Act.put] at hk
        simp only [Act.put, List.setIfInBounds_toArray, List.set_cons_succ, List.set_cons_zero]
      · go_wp2_with fail
        exact ⟨rfl, Ext.refl _, by show (_ : Value) = _; (first | rfl | simp); try rfl⟩
      · have hb := he.block Q1.out
        have q0 := blk_cell hb 0
        have q1 := blk_cell hb 1
        simp at q0 q1
        clear hb
        go_wp2_with fail
        exact ⟨rfl, Ext.refl _, HZ1.out.ext (HE7.out.trans he)⟩
      · have k0 := hk
        have H0 := Lib.hid k0
        clear k0
        go_wp2_with fail
        refine (toImpl_z (17592186043904) (zz) _ _ (H0.out) (by omega)).mono ?_
        rintro e w2 ⟨he2, x, rfl, hx⟩
        have HX := Lib.hid hx
        clear hx
        go_wp2_with fail
        exact ⟨rfl, he2, HX.out⟩
      · have hb := he.block Q2.out
        have q0 := blk_cell hb 0
        have q1 := blk_cell hb 1
        simp at q0 q1
        clear hb
        go_wp2_with fail
        exact ⟨rfl, Ext.refl _, HZ2.out.ext (HE7.out.trans he)⟩
      · have k0 := hk
        have H0 := Lib.hid k0
        clear k0
        go_wp2_with fail
        refine (toImpl_z (17592186043904) (x) _ _ (H0.out) (by omega)).mono ?_
        rintro e w2 ⟨he2, x, rfl, hx⟩
        have HX := Lib.hid hx
        clear hx
        go_wp2_with fail
        exact ⟨rfl, he2, HX.out⟩
      · have hb := he.block Q3.out
        have q0 := blk_cell hb 0
        have q1 := blk_cell hb 1
        simp at q0 q1
        clear hb
        go_wp2_with fail
        exact ⟨rfl, Ext.refl _, HZ3.out.ext (HE7.out.trans he)⟩
      · have k0 := hk
        have H0 := Lib.hid k0
        clear k0
        go_wp2_with fail
        refine (toImpl_z (17592186043904) (y) _ _ (H0.out) (by omega)).mono ?_
        rintro e w2 ⟨he2, x, rfl, hx⟩
        have HX := Lib.hid hx
        clear hx
        go_wp2_with fail
        exact ⟨rfl, he2, HX.out⟩
      · obtain ⟨k0, k1, k2, k3⟩ := hk
        obtain rfl : u0 = .int .i64 k := k0
        have H1 := Lib.hid k1
        have H2 := Lib.hid k2
        have H3 := Lib.hid k3
        clear k1 k2 k3
        go_wp2_with fail
        refine (implSub_z k (17592186043904) (zz) (x) (y) _ _ _ _ (H1.out.z) (H2.out.z) (H3.out.z) (by omega)).mono ?_
        rintro e w2 ⟨he2, x, rfl, hx⟩
        have HX := Lib.hid hx
        clear hx
        go_wp2_with fail
        exact ⟨rfl, he2, HX.out⟩
      · go_wp2_with fail
        exact ⟨rfl, Ext.refl _, by show (_ : Value) = _; (first | rfl | simp); try rfl⟩
      · have hb := he.block Q2.out
        have q0 := blk_cell hb 0
        have q1 := blk_cell hb 1
        simp at q0 q1
        clear hb
        go_wp2_with fail
        exact ⟨rfl, Ext.refl _, HZ2.out.ext (HE7.out.trans he)⟩
      · have hb := he.block Q3.out
        have q0 := blk_cell hb 0
        have q1 := blk_cell hb 1
        simp at q0 q1
        clear hb
        go_wp2_with fail
        exact ⟨rfl, Ext.refl _, HZ3.out.ext (HE7.out.trans he)⟩
      · have hb := he.block Q9.out
        have q0 := blk_cell hb 0
        have q1 := blk_cell hb 1
        simp at q0 q1
        clear hb
        go_wp2_with fail
        exact ⟨rfl, Ext.refl _, HW7.out.ext he⟩
      · have k0 := hk
        have H0 : Hid (IsC (17592186043905) (x - secZ k x y) u11 w1) := Lib.hid (by first | exact k0 | simpa using k0)
        clear k0
        go_wp2_with fail
        refine (fromSpec_z (17592186043905) (x - secZ k x y) _ _ (H0.out.w)).mono ?_
        rintro e w2 ⟨he2, x, rfl, hx⟩
        have HX := Lib.hid hx
        clear hx
        go_wp2_with fail
        exact ⟨rfl, he2, HX.out⟩
      · obtain ⟨k0, k1, k2, k3, k4⟩ := hk
        obtain rfl : u8 = .int .i64 k := k1
        have H0 := Lib.hid k0
        have H2 := Lib.hid k2
        have H3 := Lib.hid k3
        have H4 : Hid (IsW (17592186043905) (x - secZ k x y) u12 w1) := Lib.hid (by first | exact k4 | simpa using k4)
        clear k0 k2 k3 k4
        go_wp2_with fail
        refine (told_z k (17592186043905) (17592186043904) (17592186043904) (17592186043905) x y (x - secZ k x y) _ _ _ _ _ (by rw [told_A, told_B]; exact H0.out) (H2.out) (H3.out) (H4.out.z) (by omega) (by omega) (by omega) (by omega)).mono ?_
        rintro e w2 ⟨he2, x, rfl, hx⟩
        obtain rfl : x = .bool true := hx
        go_wp2_with fail
        exact ⟨rfl, he2, rfl⟩
    case last =>
      intro w1 he u0 h0 u1 h1 u2 h2 u3 h3 u4 h4 u5 h5 u6 h6 u7 h7 u8 h8 u9 h9 u10 h10 u11 h11 u12 h12 u13 h13
      obtain rfl : u13 = .bool true := h13
      clear h0 h1 h2 h3 h4 h5 h6 h7 h8 h9 h10 h11 h12
      simp only [LastD, Act.put, List.setIfInBounds_toArray, List.set_cons_succ, List.set_cons_zero]
      have HE := Lib.hid ((HE7.out).trans he)
      clear he
      go_wp2_with fail
      go_ret
      exact ⟨HE.out, rfl⟩



end Go.Proofs.Ytacmojhladdalaa

