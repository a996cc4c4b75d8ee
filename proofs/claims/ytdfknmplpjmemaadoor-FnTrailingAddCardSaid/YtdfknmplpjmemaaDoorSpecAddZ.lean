/- spec.Add, spec.Sub, laws.second by values: contracts. -/
import Derived.Test.YtdfknmplpjmemaaDoorSpecAdd
import Derived.Test.YtdfknmplpjmemaaDoorIsV
import Derived.Test.YtdfknmplpjmemaaDoorBits
import Derived.Test.YtdfknmplpjmemaaDoorCmp3
import Derived.Test.YtdfknmplpjmemaaDoorThree
set_option linter.unusedSimpArgs false
set_option linter.unusedVariables false
namespace Go.Proofs.YtdfknmplpjmemaaDoor
open Go.RowKit

set_option maxRecDepth 10000 in
set_option maxHeartbeats 2000000 in
theorem specAdd_z (L : Nat) (x y : Int) (X Y : Value) (w : World) (hX : IsZ L x X w) (hY : IsZ L y Y w) (hL : L + 1 ≤ 17592186044416) :
    Calls Tryd.prog 9 #[X, Y] w (ResR (IsC (L + 1) (x + y)) w) := by
  obtain ⟨n1, a1, l1, c1, rfl⟩ := hX.form
  obtain ⟨n2, a2, l2, c2, rfl⟩ := hY.form
  have HX := Lib.hid hX
  have HY0 := Lib.hid hY
  clear hX hY
  generalize hrz : x + y = r
  have HRZ := Lib.hid hrz
  clear hrz
  go_enter Tryd.func9, Tryd.ntmps9
  go_wp2_with fail
  refine (specTrim_z L x _ _ (HX.out.ext (((Ext.alloc _ _).trans (Ext.alloc _ _)).trans (Ext.alloc _ _))) (by omega)).mono ?_
  rintro e w1 ⟨he, y1, rfl, s1, xs, rfl, ho1, hn1, hv1, hl1⟩
  obtain ⟨ax, cx, rfl⟩ := ho1.form
  generalize hnx : decide (x < 0) = nx at *
  have hE1 : Ext w w1 := (((Ext.alloc _ _).trans (Ext.alloc _ _)).trans (Ext.alloc _ _)).trans he
  have hb := he.block ((Ext.alloc _ _).block (heap_second w (.cells #[.bool n1, .slice a1 l1 c1] 30) (.cells #[.bool n2, .slice a2 l2 c2] 30)))
  have hy0' := fun o => (Ext.alloc w1 o).cell (blk_cell hb 0)
  have hy1' := fun o => (Ext.alloc w1 o).cell (blk_cell hb 1)
  simp at hy0' hy1'
  have G40 := Lib.hid (he.block (heap_third' w (.cells #[.bool n1, .slice a1 l1 c1] 30) (.cells #[.bool n2, .slice a2 l2 c2] 30) (.cells #[.bool false, .slice none 0 0] 30)))
  have hs1 := he.size
  simp only [World.size_alloc] at hs1
  have HNX := Lib.hid hnx
  have HO1 := Lib.hid ho1
  have HN1 := Lib.hid hn1
  have HVX := Lib.hid hv1
  have HE1 := Lib.hid hE1
  clear hb hnx ho1 hn1 hv1 hE1 he
  go_wp2_with fail
  refine (specTrim_z L y _ _ ((HY0.out.ext HE1.out).ext (Ext.alloc _ _)) (by omega)).mono ?_
  rintro e w2 ⟨he, y2, rfl, s2, ys, rfl, ho2, hn2, hv2, hl2⟩
  obtain ⟨ay, cy, rfl⟩ := ho2.form
  generalize hny : decide (y < 0) = ny at *
  have hs2 := he.size
  simp only [World.size_alloc] at hs2
  have HNY := Lib.hid hny
  have HVY := Lib.hid hv2
  have g5 := (Ext.alloc w2 (.cells #[.bool ny, .slice ay ys.length cy] 30)).block (he.block (heap_alloc_new w1 (.cells #[.bool nx, .slice ax xs.length cx] 30)))
  have g6 := heap_alloc_new w2 (.cells #[.bool ny, .slice ay ys.length cy] 30)
  have g4 := (Ext.alloc w2 (.cells #[.bool ny, .slice ay ys.length cy] 30)).block (he.block ((Ext.alloc _ _).block G40.out))
  have hO1 := ((HO1.out.ext (Ext.alloc _ _)).ext he).ext (Ext.alloc w2 (.cells #[.bool ny, .slice ay ys.length cy] 30))
  have hO2 := ho2.ext (Ext.alloc w2 (.cells #[.bool ny, .slice ay ys.length cy] 30))
  have hE0 := ((HE1.out.trans (Ext.alloc _ _)).trans he).trans (Ext.alloc w2 (.cells #[.bool ny, .slice ay ys.length cy] 30))
  have he5 := he.block (heap_alloc_new w1 (.cells #[.bool nx, .slice ax xs.length cx] 30))
  clear hy0' hy1' ho2 hn2 hv2 hny he G40 HO1
  have hb5 := he5
  have hx0' := fun o => (Ext.alloc w2 o).cell (blk_cell hb5 0)
  have hx1' := fun o => (Ext.alloc w2 o).cell (blk_cell hb5 1)
  simp at hx0' hx1'
  clear hb5 he5
  by_cases hsg : nx = ny
  · have hb1 : (nx == ny) = true := by simp [hsg]
    have HSG := Lib.hid hsg
    clear hsg
    go_wp2_with fail
    clear hx0' hx1'
    generalize hp5 : w1.heap.size = p5 at *
    generalize hp6 : w2.heap.size = p6 at *
    generalize (w2.alloc (.cells #[.bool ny, .slice ay ys.length cy] 30)) = W at *
    have c50 := blk_cell g5 0
    have c51 := blk_cell g5 1
    have c60 := blk_cell g6 0
    have c61 := blk_cell g6 1
    simp at c50 c51 c60 c61
    have G4 := Lib.hid g4
    have G5 := Lib.hid g5
    have G6 := Lib.hid g6
    have HOX := Lib.hid hO1
    have HOY := Lib.hid hO2
    have HE0 := Lib.hid hE0
    clear g4 g5 g6 hO1 hO2 hE0 hp5 hp6 HE1
    have HRR : Hid ((bif nx then -((val xs + val ys : Nat) : Int) else ((val xs + val ys : Nat) : Int)) = r) := Lib.hid (by
      have h1 := HVX.out
      have h2 := HVY.out
      have h3 := HNX.out
      have h4 := HNY.out
      have h5 := HRZ.out
      rw [h1, h2]
      have h6 := HSG.out
      rw [← h3, ← h4] at h6
      have h7 : x < 0 ↔ y < 0 := decide_eq_decide.1 h6
      rw [← h3]; by_cases h8 : x < 0 <;> simp [h8] <;> omega)
    refine wp_region_D preExt mixed [Is (.pointer (some ⟨p5, 0, none⟩)), Is (.bool nx), Is (.pointer (some ⟨p5, 1, none⟩)), Is (.slice ax xs.length cx), Is (.pointer (some ⟨p6, 1, none⟩)), Is (.slice ay ys.length cy), IsV (val xs + val ys) (L + 1), IsC (L + 1) (bif nx then -((val xs + val ys : Nat) : Int) else ((val xs + val ys : Nat) : Int))] (by kernel_rfl) ?mono rfl ?steps ?last
    case mono =>
      simp only [List.forall_mem_cons, List.not_mem_nil, false_implies, implies_true, and_true]
      refine ⟨?_, ?_, ?_, ?_, ?_, ?_, ?_, ?_⟩
      all_goals first | exact fun _ _ _ _ q => q | exact fun _ _ _ he q => q.ext he
    case steps =>
      refine ⟨?_, ?_, ?_, ?_, ?_, ?_, ?_, ?_, trivial⟩
      all_goals
        intro u0 u1 u2 u3 u4 u5 u6 u7 u8 w9 he hk
        simp [KnownD, Oper.looksAt, Op.operands, Call.operands, List.findIdx?_cons, Act.put] at hk
        simp only [Act.put, List.setIfInBounds_toArray, List.set_cons_succ, List.set_cons_zero]
      · go_wp2_with fail
        exact ⟨rfl, Ext.refl _, rfl⟩
      · obtain rfl : u0 = _ := hk
        have hb := he.block G5.out
        have hc := blk_cell hb 0
        simp at hc
        clear hb
        go_wp2_with fail
        exact ⟨rfl, Ext.refl _, rfl⟩
      · go_wp2_with fail
        exact ⟨rfl, Ext.refl _, rfl⟩
      · obtain rfl : u2 = _ := hk
        have hb := he.block G5.out
        have hc := blk_cell hb 1
        simp at hc
        clear hb
        go_wp2_with fail
        exact ⟨rfl, Ext.refl _, rfl⟩
      · go_wp2_with fail
        exact ⟨rfl, Ext.refl _, rfl⟩
      · obtain rfl : u4 = _ := hk
        have hb := he.block G6.out
        have hc := blk_cell hb 1
        simp at hc
        clear hb
        go_wp2_with fail
        exact ⟨rfl, Ext.refl _, rfl⟩
      · obtain ⟨k0, k1⟩ := hk
        obtain rfl : u3 = _ := k0
        obtain rfl : u5 = _ := k1
        have HE9 := Lib.hid he
        clear he
        go_wp2_with fail
        refine (specSum_any _ _ xs ys _ L (HOX.out.read.ext HE9.out) (HOY.out.read.ext HE9.out) hL (by omega) (by omega)).mono ?_
        rintro e w8 ⟨he8, v', rs, rfl, g1, g2, g3, g4⟩
        have G := Lib.hid (show IsV (val xs + val ys) (L + 1) v' w8 from ⟨rs, g1, g2, g3, by omega⟩)
        clear g1 g2 g3
        go_wp2_with fail
        exact ⟨rfl, he8, G.out⟩
      · obtain ⟨k0, k1⟩ := hk
        obtain rfl : u1 = _ := k0
        have HK := Lib.hid k1
        clear k1
        go_wp2_with fail
        refine (specInteger_v nx (val xs + val ys) (L + 1) _ _ HK.out (by omega)).mono ?_
        rintro e w8 ⟨he8, y, rfl, hy⟩
        have HY8 := Lib.hid hy
        clear hy
        go_wp2_with fail
        exact ⟨rfl, he8, HY8.out⟩
    case last =>
      intro w9 he u0 h0 u1 h1 u2 h2 u3 h3 u4 h4 u5 h5 u6 h6 u7 h7
      have hy : IsC (L + 1) r u7 w9 := by rw [← HRR.out]; exact h7
      clear h0 h1 h2 h3 h4 h5 h6 h7
      obtain ⟨m, aa, ll, cc, rfl⟩ := hy.form
      have hp := he.block G4.out
      have d0 := blk_cell hp 0
      have d1 := blk_cell hp 1
      have f0 := blk_free hp 0
      have f1 := blk_free hp 1
      simp at d0 d1
      have HP := Lib.hid hp
      have HY := Lib.hid hy
      have HE := Lib.hid (HE0.out.trans he)
      clear hp hy he
      simp only [LastD, Act.put, List.setIfInBounds_toArray, List.set_cons_succ, List.set_cons_zero]
      go_wp2_with fail
      obtain ⟨e0, e1, hu⟩ := set2 HP.out (.bool m) (.slice aa ll cc)
      exact bodyPost_ret (results_spec rfl _ rfl e0 e1) rfl ⟨hu.ext HE.out (by omega), _, rfl, HY.out.upd HP.out (by decide) hu⟩
  · have hb1 : (nx == ny) = false := by simp [hsg]
    have HSG := Lib.hid hsg
    clear hsg
    go_wp2_with fail
    clear hx0' hx1'
    generalize hp5 : w1.heap.size = p5 at *
    generalize hp6 : w2.heap.size = p6 at *
    generalize (w2.alloc (.cells #[.bool ny, .slice ay ys.length cy] 30)) = W at *
    have c50 := blk_cell g5 0
    have c51 := blk_cell g5 1
    have c60 := blk_cell g6 0
    have c61 := blk_cell g6 1
    simp at c50 c51 c60 c61
    have G4 := Lib.hid g4
    have G5 := Lib.hid g5
    have G6 := Lib.hid g6
    have HOX := Lib.hid hO1
    have HOY := Lib.hid hO2
    have HE0 := Lib.hid hE0
    clear g4 g5 g6 hO1 hO2 hE0 hp5 hp6 HE1
    refine (specCmpAbs_z L L x y _ _ _ ⟨nx, _, xs, rfl, HOX.out.read, hl1, by rw [← HNX.out]; exact ival_of_abs HVX.out⟩ ⟨ny, _, ys, rfl, HOY.out.read, hl2, by rw [← HNY.out]; exact ival_of_abs HVY.out⟩ (by omega) (by omega)).mono ?_
    rintro e W2 ⟨heW, yc, rfl, hyc⟩
    obtain rfl : yc = _ := hyc
    replace HE0 := Lib.hid (HE0.out.trans heW)
    replace HOX := Lib.hid (HOX.out.ext heW)
    replace HOY := Lib.hid (HOY.out.ext heW)
    replace G4 := Lib.hid (heW.block G4.out)
    replace G5 := Lib.hid (heW.block G5.out)
    replace G6 := Lib.hid (heW.block G6.out)
    clear heW c50 c51 c60 c61
    generalize hcv : cmpZ (x.natAbs : Int) (y.natAbs : Int) = cv
    by_cases hge : val ys ≤ val xs
    · have hcd : decide (0 ≤ cv) = true := by
        rw [← hcv, decide_eq_true_iff]
        have h1 := HVX.out
        have h2 := HVY.out
        unfold cmpZ
        rw [if_neg (by omega)]; split <;> omega
      clear hcv
      go_wp2_with fail
      have HRR : Hid ((bif nx then -((val xs - val ys : Nat) : Int) else ((val xs - val ys : Nat) : Int)) = r) := Lib.hid (by
        have h1 := HVX.out
        have h2 := HVY.out
        have h3 := HNX.out
        have h4 := HNY.out
        have h5 := HRZ.out
        rw [h1, h2]
        have h6 := HSG.out
        rw [← h3, ← h4] at h6
        have h7 : ¬ (x < 0 ↔ y < 0) := fun q => h6 (decide_eq_decide.2 q)
        rw [h1, h2] at hge
        rw [← h3]; by_cases h8 : x < 0 <;> simp [h8] <;> omega)
      refine wp_region_D preExt mixed [Is (.pointer (some ⟨p5, 0, none⟩)), Is (.bool nx), Is (.pointer (some ⟨p5, 1, none⟩)), Is (.slice ax xs.length cx), Is (.pointer (some ⟨p6, 1, none⟩)), Is (.slice ay ys.length cy), IsV (val xs - val ys) (L + 1), IsC (L + 1) (bif nx then -((val xs - val ys : Nat) : Int) else ((val xs - val ys : Nat) : Int))] (by kernel_rfl) ?mono rfl ?steps ?last
      case mono =>
        simp only [List.forall_mem_cons, List.not_mem_nil, false_implies, implies_true, and_true]
        refine ⟨?_, ?_, ?_, ?_, ?_, ?_, ?_, ?_⟩
        all_goals first | exact fun _ _ _ _ q => q | exact fun _ _ _ he q => q.ext he
      case steps =>
        refine ⟨?_, ?_, ?_, ?_, ?_, ?_, ?_, ?_, trivial⟩
        all_goals
          intro u0 u1 u2 u3 u4 u5 u6 u7 u8 w9 he hk
          simp [KnownD, Oper.looksAt, Op.operands, Call.operands, List.findIdx?_cons, Act.put] at hk
          simp only [Act.put, List.setIfInBounds_toArray, List.set_cons_succ, List.set_cons_zero]
        · go_wp2_with fail
          exact ⟨rfl, Ext.refl _, rfl⟩
        · obtain rfl : u0 = _ := hk
          have hb := he.block G5.out
          have hc := blk_cell hb 0
          simp at hc
          clear hb
          go_wp2_with fail
          exact ⟨rfl, Ext.refl _, rfl⟩
        · go_wp2_with fail
          exact ⟨rfl, Ext.refl _, rfl⟩
        · obtain rfl : u2 = _ := hk
          have hb := he.block G5.out
          have hc := blk_cell hb 1
          simp at hc
          clear hb
          go_wp2_with fail
          exact ⟨rfl, Ext.refl _, rfl⟩
        · go_wp2_with fail
          exact ⟨rfl, Ext.refl _, rfl⟩
        · obtain rfl : u4 = _ := hk
          have hb := he.block G6.out
          have hc := blk_cell hb 1
          simp at hc
          clear hb
          go_wp2_with fail
          exact ⟨rfl, Ext.refl _, rfl⟩
        · obtain ⟨k0, k1⟩ := hk
          obtain rfl : u3 = _ := k0
          obtain rfl : u5 = _ := k1
          have HE9 := Lib.hid he
          clear he
          go_wp2_with fail
          refine (specSubtract_any _ _ xs ys _ L (HOX.out.read.ext HE9.out) (HOY.out.read.ext HE9.out) hL (by omega) (by omega) hge).mono ?_
          rintro e w8 ⟨he8, v', rs, rfl, g1, g2, g3, g4⟩
          have G := Lib.hid (show IsV (val xs - val ys) (L + 1) v' w8 from ⟨rs, g1, g2, g3, by omega⟩)
          clear g1 g2 g3
          go_wp2_with fail
          exact ⟨rfl, he8, G.out⟩
        · obtain ⟨k0, k1⟩ := hk
          obtain rfl : u1 = _ := k0
          have HK := Lib.hid k1
          clear k1
          go_wp2_with fail
          refine (specInteger_v nx (val xs - val ys) (L + 1) _ _ HK.out (by omega)).mono ?_
          rintro e w8 ⟨he8, y, rfl, hy⟩
          have HY8 := Lib.hid hy
          clear hy
          go_wp2_with fail
          exact ⟨rfl, he8, HY8.out⟩
      case last =>
        intro w9 he u0 h0 u1 h1 u2 h2 u3 h3 u4 h4 u5 h5 u6 h6 u7 h7
        have hy : IsC (L + 1) r u7 w9 := by rw [← HRR.out]; exact h7
        clear h0 h1 h2 h3 h4 h5 h6 h7
        obtain ⟨m, aa, ll, cc, rfl⟩ := hy.form
        have hp := he.block G4.out
        have d0 := blk_cell hp 0
        have d1 := blk_cell hp 1
        have f0 := blk_free hp 0
        have f1 := blk_free hp 1
        simp at d0 d1
        have HP := Lib.hid hp
        have HY := Lib.hid hy
        have HE := Lib.hid (HE0.out.trans he)
        clear hp hy he
        simp only [LastD, Act.put, List.setIfInBounds_toArray, List.set_cons_succ, List.set_cons_zero]
        go_wp2_with fail
        obtain ⟨e0, e1, hu⟩ := set2 HP.out (.bool m) (.slice aa ll cc)
        exact bodyPost_ret (results_spec rfl _ rfl e0 e1) rfl ⟨hu.ext HE.out (by omega), _, rfl, HY.out.upd HP.out (by decide) hu⟩
    · have hcd : decide (0 ≤ cv) = false := by
        rw [← hcv, decide_eq_false_iff_not]
        have h1 := HVX.out
        have h2 := HVY.out
        unfold cmpZ
        rw [if_pos (by omega)]; omega
      clear hcv
      go_wp2_with fail
      have HRR : Hid ((bif ny then -((val ys - val xs : Nat) : Int) else ((val ys - val xs : Nat) : Int)) = r) := Lib.hid (by
        have h1 := HVX.out
        have h2 := HVY.out
        have h3 := HNX.out
        have h4 := HNY.out
        have h5 := HRZ.out
        rw [h1, h2]
        have h6 := HSG.out
        rw [← h3, ← h4] at h6
        have h7 : ¬ (x < 0 ↔ y < 0) := fun q => h6 (decide_eq_decide.2 q)
        rw [h1, h2] at hge
        rw [← h4]; by_cases h8 : y < 0 <;> simp [h8] <;> omega)
      refine wp_region_D preExt mixed [Is (.pointer (some ⟨p6, 0, none⟩)), Is (.bool ny), Is (.pointer (some ⟨p6, 1, none⟩)), Is (.slice ay ys.length cy), Is (.pointer (some ⟨p5, 1, none⟩)), Is (.slice ax xs.length cx), IsV (val ys - val xs) (L + 1), IsC (L + 1) (bif ny then -((val ys - val xs : Nat) : Int) else ((val ys - val xs : Nat) : Int))] (by kernel_rfl) ?mono rfl ?steps ?last
      case mono =>
        simp only [List.forall_mem_cons, List.not_mem_nil, false_implies, implies_true, and_true]
        refine ⟨?_, ?_, ?_, ?_, ?_, ?_, ?_, ?_⟩
        all_goals first | exact fun _ _ _ _ q => q | exact fun _ _ _ he q => q.ext he
      case steps =>
        refine ⟨?_, ?_, ?_, ?_, ?_, ?_, ?_, ?_, trivial⟩
        all_goals
          intro u0 u1 u2 u3 u4 u5 u6 u7 u8 w9 he hk
          simp [KnownD, Oper.looksAt, Op.operands, Call.operands, List.findIdx?_cons, Act.put] at hk
          simp only [Act.put, List.setIfInBounds_toArray, List.set_cons_succ, List.set_cons_zero]
        · go_wp2_with fail
          exact ⟨rfl, Ext.refl _, rfl⟩
        · obtain rfl : u0 = _ := hk
          have hb := he.block G6.out
          have hc := blk_cell hb 0
          simp at hc
          clear hb
          go_wp2_with fail
          exact ⟨rfl, Ext.refl _, rfl⟩
        · go_wp2_with fail
          exact ⟨rfl, Ext.refl _, rfl⟩
        · obtain rfl : u2 = _ := hk
          have hb := he.block G6.out
          have hc := blk_cell hb 1
          simp at hc
          clear hb
          go_wp2_with fail
          exact ⟨rfl, Ext.refl _, rfl⟩
        · go_wp2_with fail
          exact ⟨rfl, Ext.refl _, rfl⟩
        · obtain rfl : u4 = _ := hk
          have hb := he.block G5.out
          have hc := blk_cell hb 1
          simp at hc
          clear hb
          go_wp2_with fail
          exact ⟨rfl, Ext.refl _, rfl⟩
        · obtain ⟨k0, k1⟩ := hk
          obtain rfl : u3 = _ := k0
          obtain rfl : u5 = _ := k1
          have HE9 := Lib.hid he
          clear he
          go_wp2_with fail
          refine (specSubtract_any _ _ ys xs _ L (HOY.out.read.ext HE9.out) (HOX.out.read.ext HE9.out) hL (by omega) (by omega) (by omega)).mono ?_
          rintro e w8 ⟨he8, v', rs, rfl, g1, g2, g3, g4⟩
          have G := Lib.hid (show IsV (val ys - val xs) (L + 1) v' w8 from ⟨rs, g1, g2, g3, by omega⟩)
          clear g1 g2 g3
          go_wp2_with fail
          exact ⟨rfl, he8, G.out⟩
        · obtain ⟨k0, k1⟩ := hk
          obtain rfl : u1 = _ := k0
          have HK := Lib.hid k1
          clear k1
          go_wp2_with fail
          refine (specInteger_v ny (val ys - val xs) (L + 1) _ _ HK.out (by omega)).mono ?_
          rintro e w8 ⟨he8, y, rfl, hy⟩
          have HY8 := Lib.hid hy
          clear hy
          go_wp2_with fail
          exact ⟨rfl, he8, HY8.out⟩
      case last =>
        intro w9 he u0 h0 u1 h1 u2 h2 u3 h3 u4 h4 u5 h5 u6 h6 u7 h7
        have hy : IsC (L + 1) r u7 w9 := by rw [← HRR.out]; exact h7
        clear h0 h1 h2 h3 h4 h5 h6 h7
        obtain ⟨m, aa, ll, cc, rfl⟩ := hy.form
        have hp := he.block G4.out
        have d0 := blk_cell hp 0
        have d1 := blk_cell hp 1
        have f0 := blk_free hp 0
        have f1 := blk_free hp 1
        simp at d0 d1
        have HP := Lib.hid hp
        have HY := Lib.hid hy
        have HE := Lib.hid (HE0.out.trans he)
        clear hp hy he
        simp only [LastD, Act.put, List.setIfInBounds_toArray, List.set_cons_succ, List.set_cons_zero]
        go_wp2_with fail
        obtain ⟨e0, e1, hu⟩ := set2 HP.out (.bool m) (.slice aa ll cc)
        exact bodyPost_ret (results_spec rfl _ rfl e0 e1) rfl ⟨hu.ext HE.out (by omega), _, rfl, HY.out.upd HP.out (by decide) hu⟩

end Go.Proofs.YtdfknmplpjmemaaDoor
