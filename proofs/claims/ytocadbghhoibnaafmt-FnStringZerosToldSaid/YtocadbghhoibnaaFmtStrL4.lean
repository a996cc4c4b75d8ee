/- FnStringZeros (printed by lawgen.py). -/
import Derived.Test.YtocadbghhoibnaaFmtMa5
import Derived.Test.YtocadbghhoibnaaFmtMa6
import Derived.Test.YtocadbghhoibnaaFmtMa1
set_option linter.unusedSimpArgs false
set_option linter.unusedVariables false
namespace Go.Proofs.YtocadbghhoibnaaFmt
open Go.RowKit

set_option maxRecDepth 100000 in
set_option maxHeartbeats 4000000 in
theorem fnStringZeros_walk (s : ByteArray) (n m : Int) (a0 a1 a2 : Addr) (w : World) (hS : Sent a0 a1 a2 w) (hs : s.size ≤ 140737488351232) (hn : (Lit.int .i64 n).wf = true) (hm : (Lit.int .u64 m).wf = true) :
    Calls Tryf.prog 11 #[.string s, .int .i64 n, .int .u64 m] w (ValR (.bool true) w) := by
  obtain ⟨hm0, hm1⟩ := wf_u64 hm
  obtain ⟨m, rfl⟩ := Int.eq_ofNat_of_zero_le hm0
  have HS := Lib.hid hS
  clear hS hn hm hm0
  go_enter Tryf.func11, Tryf.ntmps11
  go_wp2_with fail
  refine (isBase_any n _).mono ?_
  rintro e w' ⟨rfl, rfl⟩
  cases hB : isBase n
  · clear hB
    go_wp2_with fail
    go_ret
    exact ⟨Ext.refl _, rfl⟩
  obtain ⟨b, rfl, hb, hb2⟩ : ∃ b : Nat, n = (b : Int) ∧ (b = 0 ∨ 2 ≤ b) ∧ b ≤ 62 := by
    unfold isBase at hB
    have hB := of_decide_eq_true hB
    exact ⟨n.toNat, by omega, by omega, by omega⟩
  clear hB
  by_cases hb0 : b = 0
  · subst hb0
    go_wp2_with fail
    go_ret
    exact ⟨Ext.refl _, rfl⟩
  have eb0 : ((b : Int) == 0) = false := by rw [beq_eq_false_iff_ne]; omega
  have hb22 : 2 ≤ b := by omega
  by_cases hm100 : m ≤ 100
  rotate_left 1
  · have em : decide ((100 : Int) < (m : Int)) = true := decide_eq_true (by omega)
    have em2 : decide (100 < m) = true := decide_eq_true (by omega)
    go_wp2_with fail
    go_ret
    exact ⟨Ext.refl _, rfl⟩
  have em : decide ((100 : Int) < (m : Int)) = false := decide_eq_false (by omega)
  have em2 : decide (100 < m) = false := decide_eq_false (by omega)
  by_cases h0 : s.size = 0
  · obtain rfl : s = { data := #[] } := bytes_nil h0
    go_wp2_with fail
    go_ret
    exact ⟨Ext.refl _, rfl⟩
  have hpos : 0 < s.size := by omega
  have he0 : s.toList.isEmpty = false := bytes_some hpos
  clear h0
  go_wp2_with fail
  refine (signed_any s _ (by omega)).mono ?_
  rintro e w' ⟨rfl, rfl⟩
  by_cases hG : sgd (bts s 0) = true
  · rw [hG]
    clear hG
    go_wp2_with fail
    go_ret
    exact ⟨Ext.refl _, rfl⟩
  replace hG : sgd (bts s 0) = false := by simpa using hG
  rw [hG]
  have HUN := Lib.hid (sgd_false hG)
  clear hG
  obtain ⟨r, hr⟩ : ∃ r, numS (bts s 0) b = r := ⟨_, rfl⟩
  have HN := Lib.hid hr
  have HRR := Lib.hid hr
  clear hr
  go_wp2_with fail
  go_loop [7, 8] (fun v7 v8 => ∃ (k : Nat) (t : ByteArray), k ≤ m ∧ v8 = .int .u64 (k : Nat) ∧ v7 = .string t ∧ Hid (bts t 0 = List.replicate k 48) ∧ t.size ≤ k) (fun _ v8 => m - (intOf v8).toNat)
  case atStart => exact ⟨0, { data := #[] }, by omega, rfl, rfl, Lib.hid rfl, Nat.le_refl _⟩
  case round =>
    obtain ⟨k, t, hk, rfl, rfl, HT, htl⟩ := hrel
    by_cases hlt : k < m
    · have elt : decide (k < m) = true := decide_eq_true hlt
      have elt' : decide ((k : Int) < (m : Int)) = true := decide_eq_true (by omega)
      have hsz : (t ++ ({ data := #[48] } : ByteArray)).size ≤ k + 1 := by rw [size_append]; show t.size + 1 ≤ _; omega
      have HT2 : Hid (bts (t ++ ({ data := #[48] } : ByteArray)) 0 = List.replicate (k + 1) 48) := Lib.hid (by rw [bts_append, HT.out, List.replicate_succ']; rfl)
      go_wp2_with fail
      go_round
      case rel => exact ⟨k + 1, _, by omega, by go_num, rfl, HT2, hsz⟩
      case measure => simp [intOf]; omega
    · have elt : decide (k < m) = false := decide_eq_false hlt
      have elt' : decide ((k : Int) < (m : Int)) = false := decide_eq_false (by omega)
      have HM : Hid (numS (bts (t ++ s) 0) b = r) := Lib.hid (by rw [bts_append, HT.out]; exact numS_zeros HUN.out (bts_ne hpos) hb22 HRR.out)
      have hts : (t ++ s).size ≤ 140737488357000 := by rw [size_append]; omega
      go_wp2_with fail
      refine (setString_s s b a0 a1 a2 _ (by omega) (HS.out.ext (Ext.refl w)) hb hb2).mono ?_
      rintro e w1 ⟨he, y, rfl, n1, b1, l1, c1, rfl, hy⟩
      rw [HN.out] at hy ⊢
      have HE1 := Lib.hid ((Ext.refl w).trans he)
      have HX1 := Lib.hid he
      have HY1 := Lib.hid hy
      clear he hy
      go_wp2_with fail
      refine (setString_s _ b a0 a1 a2 _ hts (HS.out.ext (HE1.out.trans (Ext.alloc _ _))) hb hb2).mono ?_
      rintro e w2 ⟨he, y, rfl, n2, b2, l2, c2, rfl, hy⟩
      rw [HM.out] at hy ⊢
      have HE2 := Lib.hid ((HE1.out.trans (Ext.alloc _ _)).trans he)
      have HX2 := Lib.hid he
      have HY2 := Lib.hid hy
      clear he hy
      go_wp2_with fail
      refine (specSetString_s s b _ (by omega) hb hb2).mono ?_
      rintro e w3 ⟨he, y, rfl, n3, b3, l3, c3, rfl, hy⟩
      rw [HN.out] at hy ⊢
      have HE3 := Lib.hid ((HE2.out.trans (Ext.alloc _ _)).trans he)
      have HX3 := Lib.hid he
      have HY3 := Lib.hid hy
      clear he hy
      generalize r.isSome = ok at *
      generalize r.getD 0 = z at *
      go_upto_region 11 with fail
      have g1 : (w3.alloc (.cells #[.bool n3, .slice b3 l3 c3] 38)).heap[w1.heap.size]? = some (.cells #[.bool n1, .slice b1 l1 c1] 26) := ((HX2.out.trans (Ext.alloc _ (.cells #[.bool n2, .slice b2 l2 c2] 26))).trans ((HX3.out.trans (Ext.alloc _ (.cells #[.bool n3, .slice b3 l3 c3] 38))).trans (Ext.refl (w3.alloc (.cells #[.bool n3, .slice b3 l3 c3] 38))))).block (heap_alloc_new _ _)
      have z1 := HY1.out.ext ((Ext.alloc _ (.cells #[.bool n1, .slice b1 l1 c1] 26)).trans ((HX2.out.trans (Ext.alloc _ (.cells #[.bool n2, .slice b2 l2 c2] 26))).trans ((HX3.out.trans (Ext.alloc _ (.cells #[.bool n3, .slice b3 l3 c3] 38))).trans (Ext.refl (w3.alloc (.cells #[.bool n3, .slice b3 l3 c3] 38))))))
      have g2 : (w3.alloc (.cells #[.bool n3, .slice b3 l3 c3] 38)).heap[w2.heap.size]? = some (.cells #[.bool n2, .slice b2 l2 c2] 26) := ((HX3.out.trans (Ext.alloc _ (.cells #[.bool n3, .slice b3 l3 c3] 38))).trans (Ext.refl (w3.alloc (.cells #[.bool n3, .slice b3 l3 c3] 38)))).block (heap_alloc_new _ _)
      have z2 := HY2.out.ext ((Ext.alloc _ (.cells #[.bool n2, .slice b2 l2 c2] 26)).trans ((HX3.out.trans (Ext.alloc _ (.cells #[.bool n3, .slice b3 l3 c3] 38))).trans (Ext.refl (w3.alloc (.cells #[.bool n3, .slice b3 l3 c3] 38)))))
      have g3 : (w3.alloc (.cells #[.bool n3, .slice b3 l3 c3] 38)).heap[w3.heap.size]? = some (.cells #[.bool n3, .slice b3 l3 c3] 38) := (Ext.refl (w3.alloc (.cells #[.bool n3, .slice b3 l3 c3] 38))).block (heap_alloc_new _ _)
      have z3 := HY3.out.ext ((Ext.alloc _ (.cells #[.bool n3, .slice b3 l3 c3] 38)).trans (Ext.refl (w3.alloc (.cells #[.bool n3, .slice b3 l3 c3] 38))))
      have hW : Ext w (w3.alloc (.cells #[.bool n3, .slice b3 l3 c3] 38)) := HE3.out.trans (Ext.alloc _ _)
      generalize (w3.alloc (.cells #[.bool n3, .slice b3 l3 c3] 38)) = W at *
      have G1 := Lib.hid g1
      have HZ1 := Lib.hid z1
      have G2 := Lib.hid g2
      have HZ2 := Lib.hid z2
      have G3 := Lib.hid g3
      have HZ3 := Lib.hid z3
      have HW := Lib.hid hW
      clear hW g1 z1 g2 z2 g3 z3
      generalize w1.heap.size = p1 at *
      generalize w2.heap.size = p2 at *
      generalize w3.heap.size = p3 at *
      have d1 := blk_cell G1.out 0
      have f1 := blk_cell G1.out 1
      have d2 := blk_cell G2.out 0
      have f2 := blk_cell G2.out 1
      simp at d1 f1 d2 f2
      go_wp2_with fail
      refine (same_z 13194139533500 13194139533500 z z _ _ _ HZ1.out.z HZ2.out.z (by omega) (by omega)).mono ?_
      rintro e wf ⟨he, x, rfl, hx⟩
      obtain rfl : x = .bool true := hx.trans (by simp)
      have HEF := Lib.hid (HW.out.trans he)
      clear he hx d1 f1 d2 f2
      go_wp2_with fail
      go_ret
      exact ⟨HEF.out, rfl⟩

end Go.Proofs.YtocadbghhoibnaaFmt

