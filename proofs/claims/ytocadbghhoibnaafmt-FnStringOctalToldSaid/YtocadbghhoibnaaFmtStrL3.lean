/- FnStringOctal (printed by lawgen.py). -/
import Derived.Test.YtocadbghhoibnaaFmtMa5
import Derived.Test.YtocadbghhoibnaaFmtMa6
set_option linter.unusedSimpArgs false
set_option linter.unusedVariables false
namespace Go.Proofs.YtocadbghhoibnaaFmt
open Go.RowKit

set_option maxRecDepth 100000 in
set_option maxHeartbeats 4000000 in
theorem fnStringOctal_walk (s : ByteArray) (a0 a1 a2 : Addr) (w : World) (hS : Sent a0 a1 a2 w) (hs : s.size ≤ 140737488351232) :
    Calls Tryf.prog 8 #[.string s] w (ValR (.bool true) w) := by
  have HS := Lib.hid hS
  clear hS
  go_enter Tryf.func8, Tryf.ntmps8
  go_wp2_with fail
  refine (plain_any s _ (by omega)).mono ?_
  rintro e w' ⟨B, rfl, hB, rfl⟩
  have HB := Lib.hid hB
  clear hB
  cases B
  · go_wp2_with fail
    go_ret
    exact ⟨Ext.refl _, rfl⟩
  have HUN := Lib.hid (HB.out rfl).1
  have HNU := Lib.hid (HB.out rfl).2
  clear HB
  by_cases h0 : s.size = 0
  · obtain rfl : s = { data := #[] } := bytes_nil h0
    go_wp2_with fail
    go_ret
    exact ⟨Ext.refl _, rfl⟩
  have hpos : 0 < s.size := by omega
  have he0 : s.toList.isEmpty = false := bytes_some hpos
  clear h0
  by_cases k98 : s[0].toNat = 98
  · have e98 : ((s[0].toNat : Int) == 98) = true := by rw [k98]; rfl
    clear k98
    go_wp2_with fail
    go_ret
    exact ⟨Ext.refl _, rfl⟩
  have e98 : ((s[0].toNat : Int) == 98) = false := by rw [beq_eq_false_iff_ne]; omega
  by_cases k66 : s[0].toNat = 66
  · have e66 : ((s[0].toNat : Int) == 66) = true := by rw [k66]; rfl
    clear k66
    go_wp2_with fail
    go_ret
    exact ⟨Ext.refl _, rfl⟩
  have e66 : ((s[0].toNat : Int) == 66) = false := by rw [beq_eq_false_iff_ne]; omega
  by_cases k111 : s[0].toNat = 111
  · have e111 : ((s[0].toNat : Int) == 111) = true := by rw [k111]; rfl
    clear k111
    go_wp2_with fail
    go_ret
    exact ⟨Ext.refl _, rfl⟩
  have e111 : ((s[0].toNat : Int) == 111) = false := by rw [beq_eq_false_iff_ne]; omega
  by_cases k79 : s[0].toNat = 79
  · have e79 : ((s[0].toNat : Int) == 79) = true := by rw [k79]; rfl
    clear k79
    go_wp2_with fail
    go_ret
    exact ⟨Ext.refl _, rfl⟩
  have e79 : ((s[0].toNat : Int) == 79) = false := by rw [beq_eq_false_iff_ne]; omega
  by_cases k120 : s[0].toNat = 120
  · have e120 : ((s[0].toNat : Int) == 120) = true := by rw [k120]; rfl
    clear k120
    go_wp2_with fail
    go_ret
    exact ⟨Ext.refl _, rfl⟩
  have e120 : ((s[0].toNat : Int) == 120) = false := by rw [beq_eq_false_iff_ne]; omega
  by_cases k88 : s[0].toNat = 88
  · have e88 : ((s[0].toNat : Int) == 88) = true := by rw [k88]; rfl
    clear k88
    go_wp2_with fail
    go_ret
    exact ⟨Ext.refl _, rfl⟩
  have e88 : ((s[0].toNat : Int) == 88) = false := by rw [beq_eq_false_iff_ne]; omega
  obtain ⟨r, hr⟩ : ∃ r, numS (bts s 0) 8 = r := ⟨_, rfl⟩
  have HN := Lib.hid hr
  have HM : Hid (numS (bts ({ data := #[48] } ++ s) 0) 0 = r) := Lib.hid (by
    rw [bts_one]
    refine numS_pre (p := []) (l := bts s 0) HUN.out ?_ (by decide) HNU.out hr
    show pfx (48 :: bts s 0) = (8, 1)
    rw [bts_cons hpos]
    exact pfx_oct k98 k66 k111 k79 k120 k88 _)
  have hs48 : (({ data := #[48] } : ByteArray) ++ s).size ≤ 140737488357000 := by rw [size_one]; omega
  clear hr k98 k66 k111 k79 k120 k88
  go_wp2_with fail
  refine (setString_s _ 0 a0 a1 a2 _ hs48 (HS.out.ext (Ext.refl w)) (.inl rfl) (by omega)).mono ?_
  rintro e w1 ⟨he, y, rfl, n1, b1, l1, c1, rfl, hy⟩
  rw [HM.out] at hy ⊢
  have HE1 := Lib.hid ((Ext.refl w).trans he)
  have HX1 := Lib.hid he
  have HY1 := Lib.hid hy
  clear he hy
  go_wp2_with fail
  refine (setString_s s 8 a0 a1 a2 _ (by omega) (HS.out.ext (HE1.out.trans (Ext.alloc _ _))) (.inr (by omega)) (by omega)).mono ?_
  rintro e w2 ⟨he, y, rfl, n2, b2, l2, c2, rfl, hy⟩
  rw [HN.out] at hy ⊢
  have HE2 := Lib.hid ((HE1.out.trans (Ext.alloc _ _)).trans he)
  have HX2 := Lib.hid he
  have HY2 := Lib.hid hy
  clear he hy
  go_wp2_with fail
  refine (specSetString_s s 8 _ (by omega) (.inr (by omega)) (by omega)).mono ?_
  rintro e w3 ⟨he, y, rfl, n3, b3, l3, c3, rfl, hy⟩
  rw [HN.out] at hy ⊢
  have HE3 := Lib.hid ((HE2.out.trans (Ext.alloc _ _)).trans he)
  have HX3 := Lib.hid he
  have HY3 := Lib.hid hy
  clear he hy
  generalize r.isSome = ok at *
  generalize r.getD 0 = z at *
  go_upto_region 14 with fail
  have g1 : (w3.alloc (.cells #[.bool n3, .slice b3 l3 c3] 38)).heap[w1.heap.size]? = some (.cells #[.bool n1, .slice b1 l1 c1] 26) := ((HX2.out.trans (Ext.alloc _ (.cells #[.bool n2, .slice b2 l2 c2] 26))).trans ((HX3.out.trans (Ext.alloc _ (.cells #[.bool n3, .slice b3 l3 c3] 38))).trans (Ext.refl (w3.alloc (.cells #[.bool n3, .slice b3 l3 c3] 38))))).block (heap_alloc_new _ _)
  have z1 := HY1.out.ext ((Ext.alloc _ (.cells #[.bool n1, .slice b1 l1 c1] 26)).trans ((HX2.out.trans (Ext.alloc _ (.cells #[.bool n2, .slice b2 l2 c2] 26))).trans ((HX3.out.trans (Ext.alloc _ (.cells #[.bool n3, .slice b3 l3 c3] 38))).trans (Ext.refl (w3.alloc (.cells #[.bool n3, .slice b3 l3 c3] 38))))))
  have g2 : (w3.alloc (.cells #[.bool n3, .slice b3 l3 c3] 38)).heap[w2.heap.size]? = some (.cells #[.bool n2, .slice b2 l2 c2] 26) := ((HX3.out.trans (Ext.alloc _ (.cells #[.bool n3, .slice b3 l3 c3] 38))).trans (Ext.refl (w3.alloc (.cells #[.bool n3, .slice b3 l3 c3] 38)))).block (heap_alloc_new _ _)
  have z2 := HY2.out.ext ((Ext.alloc _ (.cells #[.bool n2, .slice b2 l2 c2] 26)).trans ((HX3.out.trans (Ext.alloc _ (.cells #[.bool n3, .slice b3 l3 c3] 38))).trans (Ext.refl (w3.alloc (.cells #[.bool n3, .slice b3 l3 c3] 38)))))
  have g3 : (w3.alloc (.cells #[.bool n3, .slice b3 l3 c3] 38)).heap[w3.heap.size]? = some (.cells #[.bool n3, .slice b3 l3 c3] 38) := (Ext.refl (w3.alloc (.cells #[.bool n3, .slice b3 l3 c3] 38))).block (heap_alloc_new _ _)
  have z3 := HY3.out.ext ((Ext.alloc _ (.cells #[.bool n3, .slice b3 l3 c3] 38)).trans (Ext.refl (w3.alloc (.cells #[.bool n3, .slice b3 l3 c3] 38))))
  have hW : Ext w (w3.alloc (.cells #[.bool n3, .slice b3 l3 c3] 38)) := HE3.out.trans (Ext.alloc _ _)
  generalize (w3.alloc (.cells #[.bool n3, .slice b3 l3 c3] 38)) = W at *
  have G1 := Lib.hid g1
  have HZ1 := Lib.hid z1
  have G2 := Lib.hid g2
  have HZ2 := Lib.hid z2
  have G3 := Lib.hid g3
  have HZ3 := Lib.hid z3
  have HW := Lib.hid hW
  clear hW g1 z1 g2 z2 g3 z3
  generalize w1.heap.size = p1 at *
  generalize w2.heap.size = p2 at *
  generalize w3.heap.size = p3 at *
  have d1 := blk_cell G1.out 0
  have f1 := blk_cell G1.out 1
  have d2 := blk_cell G2.out 0
  have f2 := blk_cell G2.out 1
  simp at d1 f1 d2 f2
  go_wp2_with fail
  refine (same_z 13194139533500 13194139533500 z z _ _ _ HZ1.out.z HZ2.out.z (by omega) (by omega)).mono ?_
  rintro e wf ⟨he, x, rfl, hx⟩
  obtain rfl : x = .bool true := hx.trans (by simp)
  have HEF := Lib.hid (HW.out.trans he)
  clear he hx d1 f1 d2 f2
  go_wp2_with fail
  go_ret
  exact ⟨HEF.out, rfl⟩

end Go.Proofs.YtocadbghhoibnaaFmt

