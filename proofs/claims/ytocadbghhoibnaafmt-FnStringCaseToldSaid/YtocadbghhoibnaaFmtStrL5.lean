/- FnStringCase (printed by lawgen.py). -/
import Derived.Test.YtocadbghhoibnaaFmtStrUp
import Derived.Test.YtocadbghhoibnaaFmtMa6
set_option linter.unusedSimpArgs false
set_option linter.unusedVariables false
namespace Go.Proofs.YtocadbghhoibnaaFmt
open Go.RowKit

set_option maxRecDepth 100000 in
set_option maxHeartbeats 4000000 in
theorem fnStringCase_walk (s : ByteArray) (n : Int) (a0 a1 a2 : Addr) (w : World) (hS : Sent a0 a1 a2 w) (hs : s.size ≤ 140737488351232) (hn : (Lit.int .i64 n).wf = true) :
    Calls Tryf.prog 7 #[.string s, .int .i64 n] w (ValR (.bool true) w) := by
  have HS := Lib.hid hS
  clear hS hn
  go_enter Tryf.func7, Tryf.ntmps7
  go_wp2_with fail
  refine (isBase_any n _).mono ?_
  rintro e w' ⟨rfl, rfl⟩
  cases hB : isBase n
  · clear hB
    go_wp2_with fail
    go_ret
    exact ⟨Ext.refl _, rfl⟩
  obtain ⟨b, rfl, hb, hb2⟩ : ∃ b : Nat, n = (b : Int) ∧ (b = 0 ∨ 2 ≤ b) ∧ b ≤ 62 := by
    unfold isBase at hB
    have hB := of_decide_eq_true hB
    exact ⟨n.toNat, by omega, by omega, by omega⟩
  clear hB
  by_cases hb36 : b ≤ 36
  rotate_left 1
  · have em : decide ((36 : Int) < (b : Int)) = true := decide_eq_true (by omega)
    have em2 : decide (36 < b) = true := decide_eq_true (by omega)
    go_wp2_with fail
    go_ret
    exact ⟨Ext.refl _, rfl⟩
  have em : decide ((36 : Int) < (b : Int)) = false := decide_eq_false (by omega)
  have em2 : decide (36 < b) = false := decide_eq_false (by omega)
  go_wp2_with fail
  refine (signed_any s _ (by omega)).mono ?_
  rintro e w' ⟨rfl, rfl⟩
  by_cases hG : sgd (bts s 0) = true
  · rw [hG]
    clear hG
    go_wp2_with fail
    go_ret
    exact ⟨Ext.refl _, rfl⟩
  replace hG : sgd (bts s 0) = false := by simpa using hG
  rw [hG]
  have HUN := Lib.hid (sgd_false hG)
  clear hG
  go_wp2_with fail
  refine (bare_any s b _ (by omega)).mono ?_
  rintro e w' ⟨B, rfl, _, rfl⟩
  cases B
  rotate_left 1
  · go_wp2_with fail
    go_ret
    exact ⟨Ext.refl _, rfl⟩
  obtain ⟨r, hr⟩ : ∃ r, numS (bts s 0) b = r := ⟨_, rfl⟩
  have HN := Lib.hid hr
  have HRR := Lib.hid hr
  clear hr
  go_wp2_with fail
  refine (setString_s s b a0 a1 a2 _ (by omega) (HS.out.ext (Ext.refl w)) hb hb2).mono ?_
  rintro e w1 ⟨he, y, rfl, n1, b1, l1, c1, rfl, hy⟩
  rw [HN.out] at hy ⊢
  have HE1 := Lib.hid ((Ext.refl w).trans he)
  have HX1 := Lib.hid he
  have HY1 := Lib.hid hy
  clear he hy
  go_wp2_with fail
  refine (upper_any s _ (by omega)).mono ?_
  rintro e wu ⟨heu, t, rfl, htb⟩
  have hts : t.size ≤ 140737488357000 := by have h1 := bts_len t 0; rw [htb, List.length_map, bts_len] at h1; omega
  have HM : Hid (numS (bts t 0) b = r) := Lib.hid (by rw [htb]; exact numS_case HUN.out hb36 HRR.out)
  have HU := Lib.hid heu
  clear htb heu
  go_wp2_with fail
  refine (setString_s t b a0 a1 a2 _ hts (HS.out.ext ((HE1.out.trans (Ext.alloc _ _)).trans HU.out)) hb hb2).mono ?_
  rintro e w2 ⟨he, y, rfl, n2, b2, l2, c2, rfl, hy⟩
  rw [HM.out] at hy ⊢
  have HE2 := Lib.hid (((HE1.out.trans (Ext.alloc _ _)).trans HU.out).trans he)
  have HX2 := Lib.hid (HU.out.trans he)
  have HY2 := Lib.hid hy
  clear he hy
  go_wp2_with fail
  refine (specSetString_s s b _ (by omega) hb hb2).mono ?_
  rintro e w3 ⟨he, y, rfl, n3, b3, l3, c3, rfl, hy⟩
  rw [HN.out] at hy ⊢
  have HE3 := Lib.hid ((HE2.out.trans (Ext.alloc _ _)).trans he)
  have HX3 := Lib.hid he
  have HY3 := Lib.hid hy
  clear he hy
  generalize r.isSome = ok at *
  generalize r.getD 0 = z at *
  go_upto_region 6 with fail
  have g1 : (w3.alloc (.cells #[.bool n3, .slice b3 l3 c3] 38)).heap[w1.heap.size]? = some (.cells #[.bool n1, .slice b1 l1 c1] 26) := ((HX2.out.trans (Ext.alloc _ (.cells #[.bool n2, .slice b2 l2 c2] 26))).trans ((HX3.out.trans (Ext.alloc _ (.cells #[.bool n3, .slice b3 l3 c3] 38))).trans (Ext.refl (w3.alloc (.cells #[.bool n3, .slice b3 l3 c3] 38))))).block (heap_alloc_new _ _)
  have z1 := HY1.out.ext ((Ext.alloc _ (.cells #[.bool n1, .slice b1 l1 c1] 26)).trans ((HX2.out.trans (Ext.alloc _ (.cells #[.bool n2, .slice b2 l2 c2] 26))).trans ((HX3.out.trans (Ext.alloc _ (.cells #[.bool n3, .slice b3 l3 c3] 38))).trans (Ext.refl (w3.alloc (.cells #[.bool n3, .slice b3 l3 c3] 38))))))
  have g2 : (w3.alloc (.cells #[.bool n3, .slice b3 l3 c3] 38)).heap[w2.heap.size]? = some (.cells #[.bool n2, .slice b2 l2 c2] 26) := ((HX3.out.trans (Ext.alloc _ (.cells #[.bool n3, .slice b3 l3 c3] 38))).trans (Ext.refl (w3.alloc (.cells #[.bool n3, .slice b3 l3 c3] 38)))).block (heap_alloc_new _ _)
  have z2 := HY2.out.ext ((Ext.alloc _ (.cells #[.bool n2, .slice b2 l2 c2] 26)).trans ((HX3.out.trans (Ext.alloc _ (.cells #[.bool n3, .slice b3 l3 c3] 38))).trans (Ext.refl (w3.alloc (.cells #[.bool n3, .slice b3 l3 c3] 38)))))
  have g3 : (w3.alloc (.cells #[.bool n3, .slice b3 l3 c3] 38)).heap[w3.heap.size]? = some (.cells #[.bool n3, .slice b3 l3 c3] 38) := (Ext.refl (w3.alloc (.cells #[.bool n3, .slice b3 l3 c3] 38))).block (heap_alloc_new _ _)
  have z3 := HY3.out.ext ((Ext.alloc _ (.cells #[.bool n3, .slice b3 l3 c3] 38)).trans (Ext.refl (w3.alloc (.cells #[.bool n3, .slice b3 l3 c3] 38))))
  have hW : Ext w (w3.alloc (.cells #[.bool n3, .slice b3 l3 c3] 38)) := HE3.out.trans (Ext.alloc _ _)
  generalize (w3.alloc (.cells #[.bool n3, .slice b3 l3 c3] 38)) = W at *
  have G1 := Lib.hid g1
  have HZ1 := Lib.hid z1
  have G2 := Lib.hid g2
  have HZ2 := Lib.hid z2
  have G3 := Lib.hid g3
  have HZ3 := Lib.hid z3
  have HW := Lib.hid hW
  clear hW g1 z1 g2 z2 g3 z3
  generalize w1.heap.size = p1 at *
  generalize w2.heap.size = p2 at *
  generalize w3.heap.size = p3 at *
  have d1 := blk_cell G1.out 0
  have f1 := blk_cell G1.out 1
  have d2 := blk_cell G2.out 0
  have f2 := blk_cell G2.out 1
  simp at d1 f1 d2 f2
  go_wp2_with fail
  refine (same_z 13194139533500 13194139533500 z z _ _ _ HZ1.out.z HZ2.out.z (by omega) (by omega)).mono ?_
  rintro e wf ⟨he, x, rfl, hx⟩
  obtain rfl : x = .bool true := hx.trans (by simp)
  have HEF := Lib.hid (HW.out.trans he)
  clear he hx d1 f1 d2 f2
  go_wp2_with fail
  go_ret
  exact ⟨HEF.out, rfl⟩

end Go.Proofs.YtocadbghhoibnaaFmt

