/- FnStringPrefix (printed by lawgen.py). -/
import Derived.Test.YtocadbghhoibnaaFmtMa5
import Derived.Test.YtocadbghhoibnaaFmtMa6
import Derived.Test.YtocadbghhoibnaaFmtMa1
set_option linter.unusedSimpArgs false
set_option linter.unusedVariables false
namespace Go.Proofs.YtocadbghhoibnaaFmt
open Go.RowKit

set_option maxRecDepth 100000 in
set_option maxHeartbeats 4000000 in
theorem fnStringPrefix_walk0 (s : ByteArray) (m : Nat) (a0 a1 a2 : Addr) (w : World) (hS : Sent a0 a1 a2 w) (hs : s.size ≤ 140737488351232) (hm : m < 18446744073709551616) (hk : m % 7 = 0) :
    Calls Tryf.prog 9 #[.string s, .int .u64 (m : Nat)] w (ValR (.bool true) w) := by
  have hmi : (m : Int) % 7 = 0 := by omega
  have HS := Lib.hid hS
  clear hS hk
  go_enter Tryf.func9, Tryf.ntmps9
  go_wp2_with fail
  refine (plain_any s _ (by omega)).mono ?_
  rintro e w' ⟨B, rfl, hB, rfl⟩
  have HB := Lib.hid hB
  clear hB
  cases B
  · go_wp2_with fail
    go_ret
    exact ⟨Ext.refl _, rfl⟩
  have HUN := Lib.hid (HB.out rfl).1
  have HNU := Lib.hid (HB.out rfl).2
  clear HB
  obtain ⟨r, hr⟩ : ∃ r, numS (bts s 0) 2 = r := ⟨_, rfl⟩
  have HN := Lib.hid hr
  have HM : Hid (numS (bts ({ data := #[48, 98] } ++ s) 0) 0 = r) := Lib.hid (by rw [bts_two]; exact numS_pre (p := [98]) HUN.out rfl (by decide) HNU.out hr)
  have hsp : (({ data := #[48, 98] } : ByteArray) ++ s).size ≤ 140737488357000 := by rw [size_two]; omega
  clear hr
  go_wp2_with fail
  refine (setString_s _ 0 a0 a1 a2 _ hsp (HS.out.ext ((Ext.alloc _ _).trans (Ext.alloc _ _))) (.inl rfl) (by omega)).mono ?_
  rintro e w1 ⟨he, y, rfl, n1, b1, l1, c1, rfl, hy⟩
  rw [HM.out] at hy ⊢
  have HE1 := Lib.hid (((Ext.alloc _ _).trans (Ext.alloc _ _)).trans he)
  have HX1 := Lib.hid he
  have HY1 := Lib.hid hy
  clear he hy
  have hB1 : (w1.alloc (.cells #[.bool n1, .slice b1 l1 c1] 26)).heap[w.heap.size + 1]? = some (.cells #[.int .i64 2, .int .i64 2, .int .i64 8, .int .i64 8, .int .i64 16, .int .i64 16, .int .i64 10] 3 (0, 0)) := (Ext.alloc _ _).block (HX1.out.block (heap_second _ _ _))
  have cb1 := blk_cell hB1 0
  simp at cb1
  have HB1 := Lib.hid hB1
  clear hB1
  go_wp2_with fail
  refine (setString_s s 2 a0 a1 a2 _ (by omega) (HS.out.ext (HE1.out.trans (Ext.alloc _ _))) (.inr (by omega)) (by omega)).mono ?_
  rintro e w2 ⟨he, y, rfl, n2, b2, l2, c2, rfl, hy⟩
  rw [HN.out] at hy ⊢
  have HE2 := Lib.hid ((HE1.out.trans (Ext.alloc _ _)).trans he)
  have HX2 := Lib.hid he
  have HY2 := Lib.hid hy
  clear he hy
  clear cb1
  have hB2 : (w2.alloc (.cells #[.bool n2, .slice b2 l2 c2] 26)).heap[w.heap.size + 1]? = some (.cells #[.int .i64 2, .int .i64 2, .int .i64 8, .int .i64 8, .int .i64 16, .int .i64 16, .int .i64 10] 3 (0, 0)) := (Ext.alloc _ _).block (HX2.out.block HB1.out)
  have cb2 := blk_cell hB2 0
  simp at cb2
  clear hB2
  go_wp2_with fail
  refine (specSetString_s s 2 _ (by omega) (.inr (by omega)) (by omega)).mono ?_
  rintro e w3 ⟨he, y, rfl, n3, b3, l3, c3, rfl, hy⟩
  rw [HN.out] at hy ⊢
  have HE3 := Lib.hid ((HE2.out.trans (Ext.alloc _ _)).trans he)
  have HX3 := Lib.hid he
  have HY3 := Lib.hid hy
  clear he hy
  clear cb2
  generalize r.isSome = ok at *
  generalize r.getD 0 = z at *
  go_upto_region 11 with fail
  have g1 : (w3.alloc (.cells #[.bool n3, .slice b3 l3 c3] 38)).heap[w1.heap.size]? = some (.cells #[.bool n1, .slice b1 l1 c1] 26) := ((HX2.out.trans (Ext.alloc _ (.cells #[.bool n2, .slice b2 l2 c2] 26))).trans ((HX3.out.trans (Ext.alloc _ (.cells #[.bool n3, .slice b3 l3 c3] 38))).trans (Ext.refl (w3.alloc (.cells #[.bool n3, .slice b3 l3 c3] 38))))).block (heap_alloc_new _ _)
  have z1 := HY1.out.ext ((Ext.alloc _ (.cells #[.bool n1, .slice b1 l1 c1] 26)).trans ((HX2.out.trans (Ext.alloc _ (.cells #[.bool n2, .slice b2 l2 c2] 26))).trans ((HX3.out.trans (Ext.alloc _ (.cells #[.bool n3, .slice b3 l3 c3] 38))).trans (Ext.refl (w3.alloc (.cells #[.bool n3, .slice b3 l3 c3] 38))))))
  have g2 : (w3.alloc (.cells #[.bool n3, .slice b3 l3 c3] 38)).heap[w2.heap.size]? = some (.cells #[.bool n2, .slice b2 l2 c2] 26) := ((HX3.out.trans (Ext.alloc _ (.cells #[.bool n3, .slice b3 l3 c3] 38))).trans (Ext.refl (w3.alloc (.cells #[.bool n3, .slice b3 l3 c3] 38)))).block (heap_alloc_new _ _)
  have z2 := HY2.out.ext ((Ext.alloc _ (.cells #[.bool n2, .slice b2 l2 c2] 26)).trans ((HX3.out.trans (Ext.alloc _ (.cells #[.bool n3, .slice b3 l3 c3] 38))).trans (Ext.refl (w3.alloc (.cells #[.bool n3, .slice b3 l3 c3] 38)))))
  have g3 : (w3.alloc (.cells #[.bool n3, .slice b3 l3 c3] 38)).heap[w3.heap.size]? = some (.cells #[.bool n3, .slice b3 l3 c3] 38) := (Ext.refl (w3.alloc (.cells #[.bool n3, .slice b3 l3 c3] 38))).block (heap_alloc_new _ _)
  have z3 := HY3.out.ext ((Ext.alloc _ (.cells #[.bool n3, .slice b3 l3 c3] 38)).trans (Ext.refl (w3.alloc (.cells #[.bool n3, .slice b3 l3 c3] 38))))
  have hW : Ext w (w3.alloc (.cells #[.bool n3, .slice b3 l3 c3] 38)) := HE3.out.trans (Ext.alloc _ _)
  generalize (w3.alloc (.cells #[.bool n3, .slice b3 l3 c3] 38)) = W at *
  have G1 := Lib.hid g1
  have HZ1 := Lib.hid z1
  have G2 := Lib.hid g2
  have HZ2 := Lib.hid z2
  have G3 := Lib.hid g3
  have HZ3 := Lib.hid z3
  have HW := Lib.hid hW
  clear hW g1 z1 g2 z2 g3 z3
  generalize w1.heap.size = p1 at *
  generalize w2.heap.size = p2 at *
  generalize w3.heap.size = p3 at *
  have d1 := blk_cell G1.out 0
  have f1 := blk_cell G1.out 1
  have d2 := blk_cell G2.out 0
  have f2 := blk_cell G2.out 1
  simp at d1 f1 d2 f2
  go_wp2_with fail
  refine (same_z 13194139533500 13194139533500 z z _ _ _ HZ1.out.z HZ2.out.z (by omega) (by omega)).mono ?_
  rintro e wf ⟨he, x, rfl, hx⟩
  obtain rfl : x = .bool true := hx.trans (by simp)
  have HEF := Lib.hid (HW.out.trans he)
  clear he hx d1 f1 d2 f2
  go_wp2_with fail
  go_ret
  exact ⟨HEF.out, rfl⟩

set_option maxRecDepth 100000 in
set_option maxHeartbeats 4000000 in
theorem fnStringPrefix_walk1 (s : ByteArray) (m : Nat) (a0 a1 a2 : Addr) (w : World) (hS : Sent a0 a1 a2 w) (hs : s.size ≤ 140737488351232) (hm : m < 18446744073709551616) (hk : m % 7 = 1) :
    Calls Tryf.prog 9 #[.string s, .int .u64 (m : Nat)] w (ValR (.bool true) w) := by
  have hmi : (m : Int) % 7 = 1 := by omega
  have HS := Lib.hid hS
  clear hS hk
  go_enter Tryf.func9, Tryf.ntmps9
  go_wp2_with fail
  refine (plain_any s _ (by omega)).mono ?_
  rintro e w' ⟨B, rfl, hB, rfl⟩
  have HB := Lib.hid hB
  clear hB
  cases B
  · go_wp2_with fail
    go_ret
    exact ⟨Ext.refl _, rfl⟩
  have HUN := Lib.hid (HB.out rfl).1
  have HNU := Lib.hid (HB.out rfl).2
  clear HB
  obtain ⟨r, hr⟩ : ∃ r, numS (bts s 0) 2 = r := ⟨_, rfl⟩
  have HN := Lib.hid hr
  have HM : Hid (numS (bts ({ data := #[48, 66] } ++ s) 0) 0 = r) := Lib.hid (by rw [bts_two]; exact numS_pre (p := [66]) HUN.out rfl (by decide) HNU.out hr)
  have hsp : (({ data := #[48, 66] } : ByteArray) ++ s).size ≤ 140737488357000 := by rw [size_two]; omega
  clear hr
  go_wp2_with fail
  refine (setString_s _ 0 a0 a1 a2 _ hsp (HS.out.ext ((Ext.alloc _ _).trans (Ext.alloc _ _))) (.inl rfl) (by omega)).mono ?_
  rintro e w1 ⟨he, y, rfl, n1, b1, l1, c1, rfl, hy⟩
  rw [HM.out] at hy ⊢
  have HE1 := Lib.hid (((Ext.alloc _ _).trans (Ext.alloc _ _)).trans he)
  have HX1 := Lib.hid he
  have HY1 := Lib.hid hy
  clear he hy
  have hB1 : (w1.alloc (.cells #[.bool n1, .slice b1 l1 c1] 26)).heap[w.heap.size + 1]? = some (.cells #[.int .i64 2, .int .i64 2, .int .i64 8, .int .i64 8, .int .i64 16, .int .i64 16, .int .i64 10] 3 (0, 0)) := (Ext.alloc _ _).block (HX1.out.block (heap_second _ _ _))
  have cb1 := blk_cell hB1 1
  simp at cb1
  have HB1 := Lib.hid hB1
  clear hB1
  go_wp2_with fail
  refine (setString_s s 2 a0 a1 a2 _ (by omega) (HS.out.ext (HE1.out.trans (Ext.alloc _ _))) (.inr (by omega)) (by omega)).mono ?_
  rintro e w2 ⟨he, y, rfl, n2, b2, l2, c2, rfl, hy⟩
  rw [HN.out] at hy ⊢
  have HE2 := Lib.hid ((HE1.out.trans (Ext.alloc _ _)).trans he)
  have HX2 := Lib.hid he
  have HY2 := Lib.hid hy
  clear he hy
  clear cb1
  have hB2 : (w2.alloc (.cells #[.bool n2, .slice b2 l2 c2] 26)).heap[w.heap.size + 1]? = some (.cells #[.int .i64 2, .int .i64 2, .int .i64 8, .int .i64 8, .int .i64 16, .int .i64 16, .int .i64 10] 3 (0, 0)) := (Ext.alloc _ _).block (HX2.out.block HB1.out)
  have cb2 := blk_cell hB2 1
  simp at cb2
  clear hB2
  go_wp2_with fail
  refine (specSetString_s s 2 _ (by omega) (.inr (by omega)) (by omega)).mono ?_
  rintro e w3 ⟨he, y, rfl, n3, b3, l3, c3, rfl, hy⟩
  rw [HN.out] at hy ⊢
  have HE3 := Lib.hid ((HE2.out.trans (Ext.alloc _ _)).trans he)
  have HX3 := Lib.hid he
  have HY3 := Lib.hid hy
  clear he hy
  clear cb2
  generalize r.isSome = ok at *
  generalize r.getD 0 = z at *
  go_upto_region 11 with fail
  have g1 : (w3.alloc (.cells #[.bool n3, .slice b3 l3 c3] 38)).heap[w1.heap.size]? = some (.cells #[.bool n1, .slice b1 l1 c1] 26) := ((HX2.out.trans (Ext.alloc _ (.cells #[.bool n2, .slice b2 l2 c2] 26))).trans ((HX3.out.trans (Ext.alloc _ (.cells #[.bool n3, .slice b3 l3 c3] 38))).trans (Ext.refl (w3.alloc (.cells #[.bool n3, .slice b3 l3 c3] 38))))).block (heap_alloc_new _ _)
  have z1 := HY1.out.ext ((Ext.alloc _ (.cells #[.bool n1, .slice b1 l1 c1] 26)).trans ((HX2.out.trans (Ext.alloc _ (.cells #[.bool n2, .slice b2 l2 c2] 26))).trans ((HX3.out.trans (Ext.alloc _ (.cells #[.bool n3, .slice b3 l3 c3] 38))).trans (Ext.refl (w3.alloc (.cells #[.bool n3, .slice b3 l3 c3] 38))))))
  have g2 : (w3.alloc (.cells #[.bool n3, .slice b3 l3 c3] 38)).heap[w2.heap.size]? = some (.cells #[.bool n2, .slice b2 l2 c2] 26) := ((HX3.out.trans (Ext.alloc _ (.cells #[.bool n3, .slice b3 l3 c3] 38))).trans (Ext.refl (w3.alloc (.cells #[.bool n3, .slice b3 l3 c3] 38)))).block (heap_alloc_new _ _)
  have z2 := HY2.out.ext ((Ext.alloc _ (.cells #[.bool n2, .slice b2 l2 c2] 26)).trans ((HX3.out.trans (Ext.alloc _ (.cells #[.bool n3, .slice b3 l3 c3] 38))).trans (Ext.refl (w3.alloc (.cells #[.bool n3, .slice b3 l3 c3] 38)))))
  have g3 : (w3.alloc (.cells #[.bool n3, .slice b3 l3 c3] 38)).heap[w3.heap.size]? = some (.cells #[.bool n3, .slice b3 l3 c3] 38) := (Ext.refl (w3.alloc (.cells #[.bool n3, .slice b3 l3 c3] 38))).block (heap_alloc_new _ _)
  have z3 := HY3.out.ext ((Ext.alloc _ (.cells #[.bool n3, .slice b3 l3 c3] 38)).trans (Ext.refl (w3.alloc (.cells #[.bool n3, .slice b3 l3 c3] 38))))
  have hW : Ext w (w3.alloc (.cells #[.bool n3, .slice b3 l3 c3] 38)) := HE3.out.trans (Ext.alloc _ _)
  generalize (w3.alloc (.cells #[.bool n3, .slice b3 l3 c3] 38)) = W at *
  have G1 := Lib.hid g1
  have HZ1 := Lib.hid z1
  have G2 := Lib.hid g2
  have HZ2 := Lib.hid z2
  have G3 := Lib.hid g3
  have HZ3 := Lib.hid z3
  have HW := Lib.hid hW
  clear hW g1 z1 g2 z2 g3 z3
  generalize w1.heap.size = p1 at *
  generalize w2.heap.size = p2 at *
  generalize w3.heap.size = p3 at *
  have d1 := blk_cell G1.out 0
  have f1 := blk_cell G1.out 1
  have d2 := blk_cell G2.out 0
  have f2 := blk_cell G2.out 1
  simp at d1 f1 d2 f2
  go_wp2_with fail
  refine (same_z 13194139533500 13194139533500 z z _ _ _ HZ1.out.z HZ2.out.z (by omega) (by omega)).mono ?_
  rintro e wf ⟨he, x, rfl, hx⟩
  obtain rfl : x = .bool true := hx.trans (by simp)
  have HEF := Lib.hid (HW.out.trans he)
  clear he hx d1 f1 d2 f2
  go_wp2_with fail
  go_ret
  exact ⟨HEF.out, rfl⟩

set_option maxRecDepth 100000 in
set_option maxHeartbeats 4000000 in
theorem fnStringPrefix_walk2 (s : ByteArray) (m : Nat) (a0 a1 a2 : Addr) (w : World) (hS : Sent a0 a1 a2 w) (hs : s.size ≤ 140737488351232) (hm : m < 18446744073709551616) (hk : m % 7 = 2) :
    Calls Tryf.prog 9 #[.string s, .int .u64 (m : Nat)] w (ValR (.bool true) w) := by
  have hmi : (m : Int) % 7 = 2 := by omega
  have HS := Lib.hid hS
  clear hS hk
  go_enter Tryf.func9, Tryf.ntmps9
  go_wp2_with fail
  refine (plain_any s _ (by omega)).mono ?_
  rintro e w' ⟨B, rfl, hB, rfl⟩
  have HB := Lib.hid hB
  clear hB
  cases B
  · go_wp2_with fail
    go_ret
    exact ⟨Ext.refl _, rfl⟩
  have HUN := Lib.hid (HB.out rfl).1
  have HNU := Lib.hid (HB.out rfl).2
  clear HB
  obtain ⟨r, hr⟩ : ∃ r, numS (bts s 0) 8 = r := ⟨_, rfl⟩
  have HN := Lib.hid hr
  have HM : Hid (numS (bts ({ data := #[48, 111] } ++ s) 0) 0 = r) := Lib.hid (by rw [bts_two]; exact numS_pre (p := [111]) HUN.out rfl (by decide) HNU.out hr)
  have hsp : (({ data := #[48, 111] } : ByteArray) ++ s).size ≤ 140737488357000 := by rw [size_two]; omega
  clear hr
  go_wp2_with fail
  refine (setString_s _ 0 a0 a1 a2 _ hsp (HS.out.ext ((Ext.alloc _ _).trans (Ext.alloc _ _))) (.inl rfl) (by omega)).mono ?_
  rintro e w1 ⟨he, y, rfl, n1, b1, l1, c1, rfl, hy⟩
  rw [HM.out] at hy ⊢
  have HE1 := Lib.hid (((Ext.alloc _ _).trans (Ext.alloc _ _)).trans he)
  have HX1 := Lib.hid he
  have HY1 := Lib.hid hy
  clear he hy
  have hB1 : (w1.alloc (.cells #[.bool n1, .slice b1 l1 c1] 26)).heap[w.heap.size + 1]? = some (.cells #[.int .i64 2, .int .i64 2, .int .i64 8, .int .i64 8, .int .i64 16, .int .i64 16, .int .i64 10] 3 (0, 0)) := (Ext.alloc _ _).block (HX1.out.block (heap_second _ _ _))
  have cb1 := blk_cell hB1 2
  simp at cb1
  have HB1 := Lib.hid hB1
  clear hB1
  go_wp2_with fail
  refine (setString_s s 8 a0 a1 a2 _ (by omega) (HS.out.ext (HE1.out.trans (Ext.alloc _ _))) (.inr (by omega)) (by omega)).mono ?_
  rintro e w2 ⟨he, y, rfl, n2, b2, l2, c2, rfl, hy⟩
  rw [HN.out] at hy ⊢
  have HE2 := Lib.hid ((HE1.out.trans (Ext.alloc _ _)).trans he)
  have HX2 := Lib.hid he
  have HY2 := Lib.hid hy
  clear he hy
  clear cb1
  have hB2 : (w2.alloc (.cells #[.bool n2, .slice b2 l2 c2] 26)).heap[w.heap.size + 1]? = some (.cells #[.int .i64 2, .int .i64 2, .int .i64 8, .int .i64 8, .int .i64 16, .int .i64 16, .int .i64 10] 3 (0, 0)) := (Ext.alloc _ _).block (HX2.out.block HB1.out)
  have cb2 := blk_cell hB2 2
  simp at cb2
  clear hB2
  go_wp2_with fail
  refine (specSetString_s s 8 _ (by omega) (.inr (by omega)) (by omega)).mono ?_
  rintro e w3 ⟨he, y, rfl, n3, b3, l3, c3, rfl, hy⟩
  rw [HN.out] at hy ⊢
  have HE3 := Lib.hid ((HE2.out.trans (Ext.alloc _ _)).trans he)
  have HX3 := Lib.hid he
  have HY3 := Lib.hid hy
  clear he hy
  clear cb2
  generalize r.isSome = ok at *
  generalize r.getD 0 = z at *
  go_upto_region 11 with fail
  have g1 : (w3.alloc (.cells #[.bool n3, .slice b3 l3 c3] 38)).heap[w1.heap.size]? = some (.cells #[.bool n1, .slice b1 l1 c1] 26) := ((HX2.out.trans (Ext.alloc _ (.cells #[.bool n2, .slice b2 l2 c2] 26))).trans ((HX3.out.trans (Ext.alloc _ (.cells #[.bool n3, .slice b3 l3 c3] 38))).trans (Ext.refl (w3.alloc (.cells #[.bool n3, .slice b3 l3 c3] 38))))).block (heap_alloc_new _ _)
  have z1 := HY1.out.ext ((Ext.alloc _ (.cells #[.bool n1, .slice b1 l1 c1] 26)).trans ((HX2.out.trans (Ext.alloc _ (.cells #[.bool n2, .slice b2 l2 c2] 26))).trans ((HX3.out.trans (Ext.alloc _ (.cells #[.bool n3, .slice b3 l3 c3] 38))).trans (Ext.refl (w3.alloc (.cells #[.bool n3, .slice b3 l3 c3] 38))))))
  have g2 : (w3.alloc (.cells #[.bool n3, .slice b3 l3 c3] 38)).heap[w2.heap.size]? = some (.cells #[.bool n2, .slice b2 l2 c2] 26) := ((HX3.out.trans (Ext.alloc _ (.cells #[.bool n3, .slice b3 l3 c3] 38))).trans (Ext.refl (w3.alloc (.cells #[.bool n3, .slice b3 l3 c3] 38)))).block (heap_alloc_new _ _)
  have z2 := HY2.out.ext ((Ext.alloc _ (.cells #[.bool n2, .slice b2 l2 c2] 26)).trans ((HX3.out.trans (Ext.alloc _ (.cells #[.bool n3, .slice b3 l3 c3] 38))).trans (Ext.refl (w3.alloc (.cells #[.bool n3, .slice b3 l3 c3] 38)))))
  have g3 : (w3.alloc (.cells #[.bool n3, .slice b3 l3 c3] 38)).heap[w3.heap.size]? = some (.cells #[.bool n3, .slice b3 l3 c3] 38) := (Ext.refl (w3.alloc (.cells #[.bool n3, .slice b3 l3 c3] 38))).block (heap_alloc_new _ _)
  have z3 := HY3.out.ext ((Ext.alloc _ (.cells #[.bool n3, .slice b3 l3 c3] 38)).trans (Ext.refl (w3.alloc (.cells #[.bool n3, .slice b3 l3 c3] 38))))
  have hW : Ext w (w3.alloc (.cells #[.bool n3, .slice b3 l3 c3] 38)) := HE3.out.trans (Ext.alloc _ _)
  generalize (w3.alloc (.cells #[.bool n3, .slice b3 l3 c3] 38)) = W at *
  have G1 := Lib.hid g1
  have HZ1 := Lib.hid z1
  have G2 := Lib.hid g2
  have HZ2 := Lib.hid z2
  have G3 := Lib.hid g3
  have HZ3 := Lib.hid z3
  have HW := Lib.hid hW
  clear hW g1 z1 g2 z2 g3 z3
  generalize w1.heap.size = p1 at *
  generalize w2.heap.size = p2 at *
  generalize w3.heap.size = p3 at *
  have d1 := blk_cell G1.out 0
  have f1 := blk_cell G1.out 1
  have d2 := blk_cell G2.out 0
  have f2 := blk_cell G2.out 1
  simp at d1 f1 d2 f2
  go_wp2_with fail
  refine (same_z 13194139533500 13194139533500 z z _ _ _ HZ1.out.z HZ2.out.z (by omega) (by omega)).mono ?_
  rintro e wf ⟨he, x, rfl, hx⟩
  obtain rfl : x = .bool true := hx.trans (by simp)
  have HEF := Lib.hid (HW.out.trans he)
  clear he hx d1 f1 d2 f2
  go_wp2_with fail
  go_ret
  exact ⟨HEF.out, rfl⟩

set_option maxRecDepth 100000 in
set_option maxHeartbeats 4000000 in
theorem fnStringPrefix_walk3 (s : ByteArray) (m : Nat) (a0 a1 a2 : Addr) (w : World) (hS : Sent a0 a1 a2 w) (hs : s.size ≤ 140737488351232) (hm : m < 18446744073709551616) (hk : m % 7 = 3) :
    Calls Tryf.prog 9 #[.string s, .int .u64 (m : Nat)] w (ValR (.bool true) w) := by
  have hmi : (m : Int) % 7 = 3 := by omega
  have HS := Lib.hid hS
  clear hS hk
  go_enter Tryf.func9, Tryf.ntmps9
  go_wp2_with fail
  refine (plain_any s _ (by omega)).mono ?_
  rintro e w' ⟨B, rfl, hB, rfl⟩
  have HB := Lib.hid hB
  clear hB
  cases B
  · go_wp2_with fail
    go_ret
    exact ⟨Ext.refl _, rfl⟩
  have HUN := Lib.hid (HB.out rfl).1
  have HNU := Lib.hid (HB.out rfl).2
  clear HB
  obtain ⟨r, hr⟩ : ∃ r, numS (bts s 0) 8 = r := ⟨_, rfl⟩
  have HN := Lib.hid hr
  have HM : Hid (numS (bts ({ data := #[48, 79] } ++ s) 0) 0 = r) := Lib.hid (by rw [bts_two]; exact numS_pre (p := [79]) HUN.out rfl (by decide) HNU.out hr)
  have hsp : (({ data := #[48, 79] } : ByteArray) ++ s).size ≤ 140737488357000 := by rw [size_two]; omega
  clear hr
  go_wp2_with fail
  refine (setString_s _ 0 a0 a1 a2 _ hsp (HS.out.ext ((Ext.alloc _ _).trans (Ext.alloc _ _))) (.inl rfl) (by omega)).mono ?_
  rintro e w1 ⟨he, y, rfl, n1, b1, l1, c1, rfl, hy⟩
  rw [HM.out] at hy ⊢
  have HE1 := Lib.hid (((Ext.alloc _ _).trans (Ext.alloc _ _)).trans he)
  have HX1 := Lib.hid he
  have HY1 := Lib.hid hy
  clear he hy
  have hB1 : (w1.alloc (.cells #[.bool n1, .slice b1 l1 c1] 26)).heap[w.heap.size + 1]? = some (.cells #[.int .i64 2, .int .i64 2, .int .i64 8, .int .i64 8, .int .i64 16, .int .i64 16, .int .i64 10] 3 (0, 0)) := (Ext.alloc _ _).block (HX1.out.block (heap_second _ _ _))
  have cb1 := blk_cell hB1 3
  simp at cb1
  have HB1 := Lib.hid hB1
  clear hB1
  go_wp2_with fail
  refine (setString_s s 8 a0 a1 a2 _ (by omega) (HS.out.ext (HE1.out.trans (Ext.alloc _ _))) (.inr (by omega)) (by omega)).mono ?_
  rintro e w2 ⟨he, y, rfl, n2, b2, l2, c2, rfl, hy⟩
  rw [HN.out] at hy ⊢
  have HE2 := Lib.hid ((HE1.out.trans (Ext.alloc _ _)).trans he)
  have HX2 := Lib.hid he
  have HY2 := Lib.hid hy
  clear he hy
  clear cb1
  have hB2 : (w2.alloc (.cells #[.bool n2, .slice b2 l2 c2] 26)).heap[w.heap.size + 1]? = some (.cells #[.int .i64 2, .int .i64 2, .int .i64 8, .int .i64 8, .int .i64 16, .int .i64 16, .int .i64 10] 3 (0, 0)) := (Ext.alloc _ _).block (HX2.out.block HB1.out)
  have cb2 := blk_cell hB2 3
  simp at cb2
  clear hB2
  go_wp2_with fail
  refine (specSetString_s s 8 _ (by omega) (.inr (by omega)) (by omega)).mono ?_
  rintro e w3 ⟨he, y, rfl, n3, b3, l3, c3, rfl, hy⟩
  rw [HN.out] at hy ⊢
  have HE3 := Lib.hid ((HE2.out.trans (Ext.alloc _ _)).trans he)
  have HX3 := Lib.hid he
  have HY3 := Lib.hid hy
  clear he hy
  clear cb2
  generalize r.isSome = ok at *
  generalize r.getD 0 = z at *
  go_upto_region 11 with fail
  have g1 : (w3.alloc (.cells #[.bool n3, .slice b3 l3 c3] 38)).heap[w1.heap.size]? = some (.cells #[.bool n1, .slice b1 l1 c1] 26) := ((HX2.out.trans (Ext.alloc _ (.cells #[.bool n2, .slice b2 l2 c2] 26))).trans ((HX3.out.trans (Ext.alloc _ (.cells #[.bool n3, .slice b3 l3 c3] 38))).trans (Ext.refl (w3.alloc (.cells #[.bool n3, .slice b3 l3 c3] 38))))).block (heap_alloc_new _ _)
  have z1 := HY1.out.ext ((Ext.alloc _ (.cells #[.bool n1, .slice b1 l1 c1] 26)).trans ((HX2.out.trans (Ext.alloc _ (.cells #[.bool n2, .slice b2 l2 c2] 26))).trans ((HX3.out.trans (Ext.alloc _ (.cells #[.bool n3, .slice b3 l3 c3] 38))).trans (Ext.refl (w3.alloc (.cells #[.bool n3, .slice b3 l3 c3] 38))))))
  have g2 : (w3.alloc (.cells #[.bool n3, .slice b3 l3 c3] 38)).heap[w2.heap.size]? = some (.cells #[.bool n2, .slice b2 l2 c2] 26) := ((HX3.out.trans (Ext.alloc _ (.cells #[.bool n3, .slice b3 l3 c3] 38))).trans (Ext.refl (w3.alloc (.cells #[.bool n3, .slice b3 l3 c3] 38)))).block (heap_alloc_new _ _)
  have z2 := HY2.out.ext ((Ext.alloc _ (.cells #[.bool n2, .slice b2 l2 c2] 26)).trans ((HX3.out.trans (Ext.alloc _ (.cells #[.bool n3, .slice b3 l3 c3] 38))).trans (Ext.refl (w3.alloc (.cells #[.bool n3, .slice b3 l3 c3] 38)))))
  have g3 : (w3.alloc (.cells #[.bool n3, .slice b3 l3 c3] 38)).heap[w3.heap.size]? = some (.cells #[.bool n3, .slice b3 l3 c3] 38) := (Ext.refl (w3.alloc (.cells #[.bool n3, .slice b3 l3 c3] 38))).block (heap_alloc_new _ _)
  have z3 := HY3.out.ext ((Ext.alloc _ (.cells #[.bool n3, .slice b3 l3 c3] 38)).trans (Ext.refl (w3.alloc (.cells #[.bool n3, .slice b3 l3 c3] 38))))
  have hW : Ext w (w3.alloc (.cells #[.bool n3, .slice b3 l3 c3] 38)) := HE3.out.trans (Ext.alloc _ _)
  generalize (w3.alloc (.cells #[.bool n3, .slice b3 l3 c3] 38)) = W at *
  have G1 := Lib.hid g1
  have HZ1 := Lib.hid z1
  have G2 := Lib.hid g2
  have HZ2 := Lib.hid z2
  have G3 := Lib.hid g3
  have HZ3 := Lib.hid z3
  have HW := Lib.hid hW
  clear hW g1 z1 g2 z2 g3 z3
  generalize w1.heap.size = p1 at *
  generalize w2.heap.size = p2 at *
  generalize w3.heap.size = p3 at *
  have d1 := blk_cell G1.out 0
  have f1 := blk_cell G1.out 1
  have d2 := blk_cell G2.out 0
  have f2 := blk_cell G2.out 1
  simp at d1 f1 d2 f2
  go_wp2_with fail
  refine (same_z 13194139533500 13194139533500 z z _ _ _ HZ1.out.z HZ2.out.z (by omega) (by omega)).mono ?_
  rintro e wf ⟨he, x, rfl, hx⟩
  obtain rfl : x = .bool true := hx.trans (by simp)
  have HEF := Lib.hid (HW.out.trans he)
  clear he hx d1 f1 d2 f2
  go_wp2_with fail
  go_ret
  exact ⟨HEF.out, rfl⟩

set_option maxRecDepth 100000 in
set_option maxHeartbeats 4000000 in
theorem fnStringPrefix_walk4 (s : ByteArray) (m : Nat) (a0 a1 a2 : Addr) (w : World) (hS : Sent a0 a1 a2 w) (hs : s.size ≤ 140737488351232) (hm : m < 18446744073709551616) (hk : m % 7 = 4) :
    Calls Tryf.prog 9 #[.string s, .int .u64 (m : Nat)] w (ValR (.bool true) w) := by
  have hmi : (m : Int) % 7 = 4 := by omega
  have HS := Lib.hid hS
  clear hS hk
  go_enter Tryf.func9, Tryf.ntmps9
  go_wp2_with fail
  refine (plain_any s _ (by omega)).mono ?_
  rintro e w' ⟨B, rfl, hB, rfl⟩
  have HB := Lib.hid hB
  clear hB
  cases B
  · go_wp2_with fail
    go_ret
    exact ⟨Ext.refl _, rfl⟩
  have HUN := Lib.hid (HB.out rfl).1
  have HNU := Lib.hid (HB.out rfl).2
  clear HB
  obtain ⟨r, hr⟩ : ∃ r, numS (bts s 0) 16 = r := ⟨_, rfl⟩
  have HN := Lib.hid hr
  have HM : Hid (numS (bts ({ data := #[48, 120] } ++ s) 0) 0 = r) := Lib.hid (by rw [bts_two]; exact numS_pre (p := [120]) HUN.out rfl (by decide) HNU.out hr)
  have hsp : (({ data := #[48, 120] } : ByteArray) ++ s).size ≤ 140737488357000 := by rw [size_two]; omega
  clear hr
  go_wp2_with fail
  refine (setString_s _ 0 a0 a1 a2 _ hsp (HS.out.ext ((Ext.alloc _ _).trans (Ext.alloc _ _))) (.inl rfl) (by omega)).mono ?_
  rintro e w1 ⟨he, y, rfl, n1, b1, l1, c1, rfl, hy⟩
  rw [HM.out] at hy ⊢
  have HE1 := Lib.hid (((Ext.alloc _ _).trans (Ext.alloc _ _)).trans he)
  have HX1 := Lib.hid he
  have HY1 := Lib.hid hy
  clear he hy
  have hB1 : (w1.alloc (.cells #[.bool n1, .slice b1 l1 c1] 26)).heap[w.heap.size + 1]? = some (.cells #[.int .i64 2, .int .i64 2, .int .i64 8, .int .i64 8, .int .i64 16, .int .i64 16, .int .i64 10] 3 (0, 0)) := (Ext.alloc _ _).block (HX1.out.block (heap_second _ _ _))
  have cb1 := blk_cell hB1 4
  simp at cb1
  have HB1 := Lib.hid hB1
  clear hB1
  go_wp2_with fail
  refine (setString_s s 16 a0 a1 a2 _ (by omega) (HS.out.ext (HE1.out.trans (Ext.alloc _ _))) (.inr (by omega)) (by omega)).mono ?_
  rintro e w2 ⟨he, y, rfl, n2, b2, l2, c2, rfl, hy⟩
  rw [HN.out] at hy ⊢
  have HE2 := Lib.hid ((HE1.out.trans (Ext.alloc _ _)).trans he)
  have HX2 := Lib.hid he
  have HY2 := Lib.hid hy
  clear he hy
  clear cb1
  have hB2 : (w2.alloc (.cells #[.bool n2, .slice b2 l2 c2] 26)).heap[w.heap.size + 1]? = some (.cells #[.int .i64 2, .int .i64 2, .int .i64 8, .int .i64 8, .int .i64 16, .int .i64 16, .int .i64 10] 3 (0, 0)) := (Ext.alloc _ _).block (HX2.out.block HB1.out)
  have cb2 := blk_cell hB2 4
  simp at cb2
  clear hB2
  go_wp2_with fail
  refine (specSetString_s s 16 _ (by omega) (.inr (by omega)) (by omega)).mono ?_
  rintro e w3 ⟨he, y, rfl, n3, b3, l3, c3, rfl, hy⟩
  rw [HN.out] at hy ⊢
  have HE3 := Lib.hid ((HE2.out.trans (Ext.alloc _ _)).trans he)
  have HX3 := Lib.hid he
  have HY3 := Lib.hid hy
  clear he hy
  clear cb2
  generalize r.isSome = ok at *
  generalize r.getD 0 = z at *
  go_upto_region 11 with fail
  have g1 : (w3.alloc (.cells #[.bool n3, .slice b3 l3 c3] 38)).heap[w1.heap.size]? = some (.cells #[.bool n1, .slice b1 l1 c1] 26) := ((HX2.out.trans (Ext.alloc _ (.cells #[.bool n2, .slice b2 l2 c2] 26))).trans ((HX3.out.trans (Ext.alloc _ (.cells #[.bool n3, .slice b3 l3 c3] 38))).trans (Ext.refl (w3.alloc (.cells #[.bool n3, .slice b3 l3 c3] 38))))).block (heap_alloc_new _ _)
  have z1 := HY1.out.ext ((Ext.alloc _ (.cells #[.bool n1, .slice b1 l1 c1] 26)).trans ((HX2.out.trans (Ext.alloc _ (.cells #[.bool n2, .slice b2 l2 c2] 26))).trans ((HX3.out.trans (Ext.alloc _ (.cells #[.bool n3, .slice b3 l3 c3] 38))).trans (Ext.refl (w3.alloc (.cells #[.bool n3, .slice b3 l3 c3] 38))))))
  have g2 : (w3.alloc (.cells #[.bool n3, .slice b3 l3 c3] 38)).heap[w2.heap.size]? = some (.cells #[.bool n2, .slice b2 l2 c2] 26) := ((HX3.out.trans (Ext.alloc _ (.cells #[.bool n3, .slice b3 l3 c3] 38))).trans (Ext.refl (w3.alloc (.cells #[.bool n3, .slice b3 l3 c3] 38)))).block (heap_alloc_new _ _)
  have z2 := HY2.out.ext ((Ext.alloc _ (.cells #[.bool n2, .slice b2 l2 c2] 26)).trans ((HX3.out.trans (Ext.alloc _ (.cells #[.bool n3, .slice b3 l3 c3] 38))).trans (Ext.refl (w3.alloc (.cells #[.bool n3, .slice b3 l3 c3] 38)))))
  have g3 : (w3.alloc (.cells #[.bool n3, .slice b3 l3 c3] 38)).heap[w3.heap.size]? = some (.cells #[.bool n3, .slice b3 l3 c3] 38) := (Ext.refl (w3.alloc (.cells #[.bool n3, .slice b3 l3 c3] 38))).block (heap_alloc_new _ _)
  have z3 := HY3.out.ext ((Ext.alloc _ (.cells #[.bool n3, .slice b3 l3 c3] 38)).trans (Ext.refl (w3.alloc (.cells #[.bool n3, .slice b3 l3 c3] 38))))
  have hW : Ext w (w3.alloc (.cells #[.bool n3, .slice b3 l3 c3] 38)) := HE3.out.trans (Ext.alloc _ _)
  generalize (w3.alloc (.cells #[.bool n3, .slice b3 l3 c3] 38)) = W at *
  have G1 := Lib.hid g1
  have HZ1 := Lib.hid z1
  have G2 := Lib.hid g2
  have HZ2 := Lib.hid z2
  have G3 := Lib.hid g3
  have HZ3 := Lib.hid z3
  have HW := Lib.hid hW
  clear hW g1 z1 g2 z2 g3 z3
  generalize w1.heap.size = p1 at *
  generalize w2.heap.size = p2 at *
  generalize w3.heap.size = p3 at *
  have d1 := blk_cell G1.out 0
  have f1 := blk_cell G1.out 1
  have d2 := blk_cell G2.out 0
  have f2 := blk_cell G2.out 1
  simp at d1 f1 d2 f2
  go_wp2_with fail
  refine (same_z 13194139533500 13194139533500 z z _ _ _ HZ1.out.z HZ2.out.z (by omega) (by omega)).mono ?_
  rintro e wf ⟨he, x, rfl, hx⟩
  obtain rfl : x = .bool true := hx.trans (by simp)
  have HEF := Lib.hid (HW.out.trans he)
  clear he hx d1 f1 d2 f2
  go_wp2_with fail
  go_ret
  exact ⟨HEF.out, rfl⟩

set_option maxRecDepth 100000 in
set_option maxHeartbeats 4000000 in
theorem fnStringPrefix_walk5 (s : ByteArray) (m : Nat) (a0 a1 a2 : Addr) (w : World) (hS : Sent a0 a1 a2 w) (hs : s.size ≤ 140737488351232) (hm : m < 18446744073709551616) (hk : m % 7 = 5) :
    Calls Tryf.prog 9 #[.string s, .int .u64 (m : Nat)] w (ValR (.bool true) w) := by
  have hmi : (m : Int) % 7 = 5 := by omega
  have HS := Lib.hid hS
  clear hS hk
  go_enter Tryf.func9, Tryf.ntmps9
  go_wp2_with fail
  refine (plain_any s _ (by omega)).mono ?_
  rintro e w' ⟨B, rfl, hB, rfl⟩
  have HB := Lib.hid hB
  clear hB
  cases B
  · go_wp2_with fail
    go_ret
    exact ⟨Ext.refl _, rfl⟩
  have HUN := Lib.hid (HB.out rfl).1
  have HNU := Lib.hid (HB.out rfl).2
  clear HB
  obtain ⟨r, hr⟩ : ∃ r, numS (bts s 0) 16 = r := ⟨_, rfl⟩
  have HN := Lib.hid hr
  have HM : Hid (numS (bts ({ data := #[48, 88] } ++ s) 0) 0 = r) := Lib.hid (by rw [bts_two]; exact numS_pre (p := [88]) HUN.out rfl (by decide) HNU.out hr)
  have hsp : (({ data := #[48, 88] } : ByteArray) ++ s).size ≤ 140737488357000 := by rw [size_two]; omega
  clear hr
  go_wp2_with fail
  refine (setString_s _ 0 a0 a1 a2 _ hsp (HS.out.ext ((Ext.alloc _ _).trans (Ext.alloc _ _))) (.inl rfl) (by omega)).mono ?_
  rintro e w1 ⟨he, y, rfl, n1, b1, l1, c1, rfl, hy⟩
  rw [HM.out] at hy ⊢
  have HE1 := Lib.hid (((Ext.alloc _ _).trans (Ext.alloc _ _)).trans he)
  have HX1 := Lib.hid he
  have HY1 := Lib.hid hy
  clear he hy
  have hB1 : (w1.alloc (.cells #[.bool n1, .slice b1 l1 c1] 26)).heap[w.heap.size + 1]? = some (.cells #[.int .i64 2, .int .i64 2, .int .i64 8, .int .i64 8, .int .i64 16, .int .i64 16, .int .i64 10] 3 (0, 0)) := (Ext.alloc _ _).block (HX1.out.block (heap_second _ _ _))
  have cb1 := blk_cell hB1 5
  simp at cb1
  have HB1 := Lib.hid hB1
  clear hB1
  go_wp2_with fail
  refine (setString_s s 16 a0 a1 a2 _ (by omega) (HS.out.ext (HE1.out.trans (Ext.alloc _ _))) (.inr (by omega)) (by omega)).mono ?_
  rintro e w2 ⟨he, y, rfl, n2, b2, l2, c2, rfl, hy⟩
  rw [HN.out] at hy ⊢
  have HE2 := Lib.hid ((HE1.out.trans (Ext.alloc _ _)).trans he)
  have HX2 := Lib.hid he
  have HY2 := Lib.hid hy
  clear he hy
  clear cb1
  have hB2 : (w2.alloc (.cells #[.bool n2, .slice b2 l2 c2] 26)).heap[w.heap.size + 1]? = some (.cells #[.int .i64 2, .int .i64 2, .int .i64 8, .int .i64 8, .int .i64 16, .int .i64 16, .int .i64 10] 3 (0, 0)) := (Ext.alloc _ _).block (HX2.out.block HB1.out)
  have cb2 := blk_cell hB2 5
  simp at cb2
  clear hB2
  go_wp2_with fail
  refine (specSetString_s s 16 _ (by omega) (.inr (by omega)) (by omega)).mono ?_
  rintro e w3 ⟨he, y, rfl, n3, b3, l3, c3, rfl, hy⟩
  rw [HN.out] at hy ⊢
  have HE3 := Lib.hid ((HE2.out.trans (Ext.alloc _ _)).trans he)
  have HX3 := Lib.hid he
  have HY3 := Lib.hid hy
  clear he hy
  clear cb2
  generalize r.isSome = ok at *
  generalize r.getD 0 = z at *
  go_upto_region 11 with fail
  have g1 : (w3.alloc (.cells #[.bool n3, .slice b3 l3 c3] 38)).heap[w1.heap.size]? = some (.cells #[.bool n1, .slice b1 l1 c1] 26) := ((HX2.out.trans (Ext.alloc _ (.cells #[.bool n2, .slice b2 l2 c2] 26))).trans ((HX3.out.trans (Ext.alloc _ (.cells #[.bool n3, .slice b3 l3 c3] 38))).trans (Ext.refl (w3.alloc (.cells #[.bool n3, .slice b3 l3 c3] 38))))).block (heap_alloc_new _ _)
  have z1 := HY1.out.ext ((Ext.alloc _ (.cells #[.bool n1, .slice b1 l1 c1] 26)).trans ((HX2.out.trans (Ext.alloc _ (.cells #[.bool n2, .slice b2 l2 c2] 26))).trans ((HX3.out.trans (Ext.alloc _ (.cells #[.bool n3, .slice b3 l3 c3] 38))).trans (Ext.refl (w3.alloc (.cells #[.bool n3, .slice b3 l3 c3] 38))))))
  have g2 : (w3.alloc (.cells #[.bool n3, .slice b3 l3 c3] 38)).heap[w2.heap.size]? = some (.cells #[.bool n2, .slice b2 l2 c2] 26) := ((HX3.out.trans (Ext.alloc _ (.cells #[.bool n3, .slice b3 l3 c3] 38))).trans (Ext.refl (w3.alloc (.cells #[.bool n3, .slice b3 l3 c3] 38)))).block (heap_alloc_new _ _)
  have z2 := HY2.out.ext ((Ext.alloc _ (.cells #[.bool n2, .slice b2 l2 c2] 26)).trans ((HX3.out.trans (Ext.alloc _ (.cells #[.bool n3, .slice b3 l3 c3] 38))).trans (Ext.refl (w3.alloc (.cells #[.bool n3, .slice b3 l3 c3] 38)))))
  have g3 : (w3.alloc (.cells #[.bool n3, .slice b3 l3 c3] 38)).heap[w3.heap.size]? = some (.cells #[.bool n3, .slice b3 l3 c3] 38) := (Ext.refl (w3.alloc (.cells #[.bool n3, .slice b3 l3 c3] 38))).block (heap_alloc_new _ _)
  have z3 := HY3.out.ext ((Ext.alloc _ (.cells #[.bool n3, .slice b3 l3 c3] 38)).trans (Ext.refl (w3.alloc (.cells #[.bool n3, .slice b3 l3 c3] 38))))
  have hW : Ext w (w3.alloc (.cells #[.bool n3, .slice b3 l3 c3] 38)) := HE3.out.trans (Ext.alloc _ _)
  generalize (w3.alloc (.cells #[.bool n3, .slice b3 l3 c3] 38)) = W at *
  have G1 := Lib.hid g1
  have HZ1 := Lib.hid z1
  have G2 := Lib.hid g2
  have HZ2 := Lib.hid z2
  have G3 := Lib.hid g3
  have HZ3 := Lib.hid z3
  have HW := Lib.hid hW
  clear hW g1 z1 g2 z2 g3 z3
  generalize w1.heap.size = p1 at *
  generalize w2.heap.size = p2 at *
  generalize w3.heap.size = p3 at *
  have d1 := blk_cell G1.out 0
  have f1 := blk_cell G1.out 1
  have d2 := blk_cell G2.out 0
  have f2 := blk_cell G2.out 1
  simp at d1 f1 d2 f2
  go_wp2_with fail
  refine (same_z 13194139533500 13194139533500 z z _ _ _ HZ1.out.z HZ2.out.z (by omega) (by omega)).mono ?_
  rintro e wf ⟨he, x, rfl, hx⟩
  obtain rfl : x = .bool true := hx.trans (by simp)
  have HEF := Lib.hid (HW.out.trans he)
  clear he hx d1 f1 d2 f2
  go_wp2_with fail
  go_ret
  exact ⟨HEF.out, rfl⟩

set_option maxRecDepth 100000 in
set_option maxHeartbeats 4000000 in
theorem fnStringPrefix_walk6 (s : ByteArray) (m : Nat) (a0 a1 a2 : Addr) (w : World) (hS : Sent a0 a1 a2 w) (hs : s.size ≤ 140737488351232) (hm : m < 18446744073709551616) (hk : m % 7 = 6) :
    Calls Tryf.prog 9 #[.string s, .int .u64 (m : Nat)] w (ValR (.bool true) w) := by
  have hmi : (m : Int) % 7 = 6 := by omega
  have HS := Lib.hid hS
  clear hS hk
  go_enter Tryf.func9, Tryf.ntmps9
  go_wp2_with fail
  refine (plain_any s _ (by omega)).mono ?_
  rintro e w' ⟨B, rfl, hB, rfl⟩
  have HB := Lib.hid hB
  clear hB
  cases B
  · go_wp2_with fail
    go_ret
    exact ⟨Ext.refl _, rfl⟩
  have HUN := Lib.hid (HB.out rfl).1
  have HNU := Lib.hid (HB.out rfl).2
  clear HB
  have hor : (0 < s.size ∧ ∃ h0 : 0 < s.size, s[0].toNat = 48) ∨ (s.size = 0 ∨ ∃ h0 : 0 < s.size, s[0].toNat ≠ 48) := by
    by_cases h0 : 0 < s.size
    · by_cases h48 : s[0].toNat = 48
      · exact .inl ⟨h0, h0, h48⟩
      · exact .inr (.inr ⟨h0, h48⟩)
    · exact .inr (.inl (by omega))
  rcases hor with ⟨_, h0, h48⟩ | hor
  · have e48 : ((s[0].toNat : Int) == 48) = true := by rw [h48]; rfl
    have e0 : decide (0 < s.size) = true := decide_eq_true h0
    clear h48
    go_wp2_with fail
    go_ret
    exact ⟨(Ext.alloc _ _).trans (Ext.alloc _ _), rfl⟩
  obtain ⟨r, hr⟩ : ∃ r, numS (bts s 0) 10 = r := ⟨_, rfl⟩
  have HN := Lib.hid hr
  have HM : Hid (numS (bts ({ data := #[] } ++ s) 0) 0 = r) := Lib.hid (by rw [bts_append]; exact numS_dec HUN.out (pfx_not48 hor) HNU.out hr)
  have hsp : (({ data := #[] } : ByteArray) ++ s).size ≤ 140737488357000 := by rw [size_append]; show 0 + s.size ≤ _; omega
  clear hr
  have hw1 : decide (0 < s.size) = false ∨ ∃ h0 : 0 < s.size, decide (0 < s.size) = true ∧ ((s[0].toNat : Int) == 48) = false := by
    rcases hor with h | ⟨h0, h⟩
    · exact .inl (decide_eq_false (by omega))
    · exact .inr ⟨h0, decide_eq_true h0, by rw [beq_eq_false_iff_ne]; omega⟩
  clear hor
  rcases hw1 with e0 | ⟨h0, e0, e48⟩
  all_goals
    go_wp2_with fail
    refine (setString_s _ 0 a0 a1 a2 _ hsp (HS.out.ext ((Ext.alloc _ _).trans (Ext.alloc _ _))) (.inl rfl) (by omega)).mono ?_
    rintro e w1 ⟨he, y, rfl, n1, b1, l1, c1, rfl, hy⟩
    rw [HM.out] at hy ⊢
    have HE1 := Lib.hid (((Ext.alloc _ _).trans (Ext.alloc _ _)).trans he)
    have HX1 := Lib.hid he
    have HY1 := Lib.hid hy
    clear he hy
    have hB1 : (w1.alloc (.cells #[.bool n1, .slice b1 l1 c1] 26)).heap[w.heap.size + 1]? = some (.cells #[.int .i64 2, .int .i64 2, .int .i64 8, .int .i64 8, .int .i64 16, .int .i64 16, .int .i64 10] 3 (0, 0)) := (Ext.alloc _ _).block (HX1.out.block (heap_second _ _ _))
    have cb1 := blk_cell hB1 6
    simp at cb1
    have HB1 := Lib.hid hB1
    clear hB1
    go_wp2_with fail
    refine (setString_s s 10 a0 a1 a2 _ (by omega) (HS.out.ext (HE1.out.trans (Ext.alloc _ _))) (.inr (by omega)) (by omega)).mono ?_
    rintro e w2 ⟨he, y, rfl, n2, b2, l2, c2, rfl, hy⟩
    rw [HN.out] at hy ⊢
    have HE2 := Lib.hid ((HE1.out.trans (Ext.alloc _ _)).trans he)
    have HX2 := Lib.hid he
    have HY2 := Lib.hid hy
    clear he hy
    clear cb1
    have hB2 : (w2.alloc (.cells #[.bool n2, .slice b2 l2 c2] 26)).heap[w.heap.size + 1]? = some (.cells #[.int .i64 2, .int .i64 2, .int .i64 8, .int .i64 8, .int .i64 16, .int .i64 16, .int .i64 10] 3 (0, 0)) := (Ext.alloc _ _).block (HX2.out.block HB1.out)
    have cb2 := blk_cell hB2 6
    simp at cb2
    clear hB2
    go_wp2_with fail
    refine (specSetString_s s 10 _ (by omega) (.inr (by omega)) (by omega)).mono ?_
    rintro e w3 ⟨he, y, rfl, n3, b3, l3, c3, rfl, hy⟩
    rw [HN.out] at hy ⊢
    have HE3 := Lib.hid ((HE2.out.trans (Ext.alloc _ _)).trans he)
    have HX3 := Lib.hid he
    have HY3 := Lib.hid hy
    clear he hy
    clear cb2
    generalize r.isSome = ok at *
    generalize r.getD 0 = z at *
    go_upto_region 11 with fail
    have g1 : (w3.alloc (.cells #[.bool n3, .slice b3 l3 c3] 38)).heap[w1.heap.size]? = some (.cells #[.bool n1, .slice b1 l1 c1] 26) := ((HX2.out.trans (Ext.alloc _ (.cells #[.bool n2, .slice b2 l2 c2] 26))).trans ((HX3.out.trans (Ext.alloc _ (.cells #[.bool n3, .slice b3 l3 c3] 38))).trans (Ext.refl (w3.alloc (.cells #[.bool n3, .slice b3 l3 c3] 38))))).block (heap_alloc_new _ _)
    have z1 := HY1.out.ext ((Ext.alloc _ (.cells #[.bool n1, .slice b1 l1 c1] 26)).trans ((HX2.out.trans (Ext.alloc _ (.cells #[.bool n2, .slice b2 l2 c2] 26))).trans ((HX3.out.trans (Ext.alloc _ (.cells #[.bool n3, .slice b3 l3 c3] 38))).trans (Ext.refl (w3.alloc (.cells #[.bool n3, .slice b3 l3 c3] 38))))))
    have g2 : (w3.alloc (.cells #[.bool n3, .slice b3 l3 c3] 38)).heap[w2.heap.size]? = some (.cells #[.bool n2, .slice b2 l2 c2] 26) := ((HX3.out.trans (Ext.alloc _ (.cells #[.bool n3, .slice b3 l3 c3] 38))).trans (Ext.refl (w3.alloc (.cells #[.bool n3, .slice b3 l3 c3] 38)))).block (heap_alloc_new _ _)
    have z2 := HY2.out.ext ((Ext.alloc _ (.cells #[.bool n2, .slice b2 l2 c2] 26)).trans ((HX3.out.trans (Ext.alloc _ (.cells #[.bool n3, .slice b3 l3 c3] 38))).trans (Ext.refl (w3.alloc (.cells #[.bool n3, .slice b3 l3 c3] 38)))))
    have g3 : (w3.alloc (.cells #[.bool n3, .slice b3 l3 c3] 38)).heap[w3.heap.size]? = some (.cells #[.bool n3, .slice b3 l3 c3] 38) := (Ext.refl (w3.alloc (.cells #[.bool n3, .slice b3 l3 c3] 38))).block (heap_alloc_new _ _)
    have z3 := HY3.out.ext ((Ext.alloc _ (.cells #[.bool n3, .slice b3 l3 c3] 38)).trans (Ext.refl (w3.alloc (.cells #[.bool n3, .slice b3 l3 c3] 38))))
    have hW : Ext w (w3.alloc (.cells #[.bool n3, .slice b3 l3 c3] 38)) := HE3.out.trans (Ext.alloc _ _)
    generalize (w3.alloc (.cells #[.bool n3, .slice b3 l3 c3] 38)) = W at *
    have G1 := Lib.hid g1
    have HZ1 := Lib.hid z1
    have G2 := Lib.hid g2
    have HZ2 := Lib.hid z2
    have G3 := Lib.hid g3
    have HZ3 := Lib.hid z3
    have HW := Lib.hid hW
    clear hW g1 z1 g2 z2 g3 z3
    generalize w1.heap.size = p1 at *
    generalize w2.heap.size = p2 at *
    generalize w3.heap.size = p3 at *
    have d1 := blk_cell G1.out 0
    have f1 := blk_cell G1.out 1
    have d2 := blk_cell G2.out 0
    have f2 := blk_cell G2.out 1
    simp at d1 f1 d2 f2
    go_wp2_with fail
    refine (same_z 13194139533500 13194139533500 z z _ _ _ HZ1.out.z HZ2.out.z (by omega) (by omega)).mono ?_
    rintro e wf ⟨he, x, rfl, hx⟩
    obtain rfl : x = .bool true := hx.trans (by simp)
    have HEF := Lib.hid (HW.out.trans he)
    clear he hx d1 f1 d2 f2
    go_wp2_with fail
    go_ret
    exact ⟨HEF.out, rfl⟩

theorem fnStringPrefix_walk (s : ByteArray) (m : Int) (a0 a1 a2 : Addr) (w : World) (hS : Sent a0 a1 a2 w) (hs : s.size ≤ 140737488351232) (hm : (Lit.int .u64 m).wf = true) :
    Calls Tryf.prog 9 #[.string s, .int .u64 m] w (ValR (.bool true) w) := by
  obtain ⟨hm0, hm1⟩ := wf_u64 hm
  obtain ⟨m, rfl⟩ := Int.eq_ofNat_of_zero_le hm0
  have hl : m < 18446744073709551616 := by omega
  rcases (by omega : m % 7 = 0 ∨ m % 7 = 1 ∨ m % 7 = 2 ∨ m % 7 = 3 ∨ m % 7 = 4 ∨ m % 7 = 5 ∨ m % 7 = 6) with h | h | h | h | h | h | h
  · exact fnStringPrefix_walk0 s m a0 a1 a2 w hS hs hl h
  · exact fnStringPrefix_walk1 s m a0 a1 a2 w hS hs hl h
  · exact fnStringPrefix_walk2 s m a0 a1 a2 w hS hs hl h
  · exact fnStringPrefix_walk3 s m a0 a1 a2 w hS hs hl h
  · exact fnStringPrefix_walk4 s m a0 a1 a2 w hS hs hl h
  · exact fnStringPrefix_walk5 s m a0 a1 a2 w hS hs hl h
  · exact fnStringPrefix_walk6 s m a0 a1 a2 w hS hs hl h

end Go.Proofs.YtocadbghhoibnaaFmt

