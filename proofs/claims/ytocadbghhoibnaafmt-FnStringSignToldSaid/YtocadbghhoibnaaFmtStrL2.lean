/- FnStringSign (printed by lawgen.py). -/
import Derived.Test.YtocadbghhoibnaaFmtMa5
import Derived.Test.YtocadbghhoibnaaFmtMa6
set_option linter.unusedSimpArgs false
set_option linter.unusedVariables false
namespace Go.Proofs.YtocadbghhoibnaaFmt
open Go.RowKit

set_option maxRecDepth 100000 in
set_option maxHeartbeats 4000000 in
theorem fnStringSign_walk (s : ByteArray) (n : Int) (a0 a1 a2 : Addr) (w : World) (hS : Sent a0 a1 a2 w) (hs : s.size ≤ 140737488351232) (hn : (Lit.int .i64 n).wf = true) :
    Calls Tryf.prog 12 #[.string s, .int .i64 n] w (ValR (.bool true) w) := by
  have HS := Lib.hid hS
  clear hS hn
  go_enter Tryf.func12, Tryf.ntmps12
  go_wp2_with fail
  refine (isBase_any n _).mono ?_
  rintro e w' ⟨rfl, rfl⟩
  cases hB : isBase n
  · clear hB
    go_wp2_with fail
    go_ret
    exact ⟨Ext.refl _, rfl⟩
  obtain ⟨b, rfl, hb, hb2⟩ : ∃ b : Nat, n = (b : Int) ∧ (b = 0 ∨ 2 ≤ b) ∧ b ≤ 62 := by
    unfold isBase at hB
    have hB := of_decide_eq_true hB
    exact ⟨n.toNat, by omega, by omega, by omega⟩
  clear hB
  go_wp2_with fail
  refine (signed_any s _ (by omega)).mono ?_
  rintro e w' ⟨rfl, rfl⟩
  by_cases hG : sgd (bts s 0) = true
  · rw [hG]
    clear hG
    go_wp2_with fail
    go_ret
    exact ⟨Ext.refl _, rfl⟩
  replace hG : sgd (bts s 0) = false := by simpa using hG
  rw [hG]
  have HUN := Lib.hid (sgd_false hG)
  clear hG
  go_wp2_with fail
  refine (bare_any s b _ (by omega)).mono ?_
  rintro e w' ⟨B, rfl, _, rfl⟩
  cases B
  rotate_left 1
  · go_wp2_with fail
    go_ret
    exact ⟨Ext.refl _, rfl⟩
  obtain ⟨r, hr⟩ : ∃ r, numS (bts s 0) b = r := ⟨_, rfl⟩
  have HN := Lib.hid hr
  have HM : Hid (numS (bts ({ data := #[45] } ++ s) 0) b = r.map fun z => -z) := Lib.hid (by rw [bts_one]; exact numS_neg HUN.out hr)
  have hs45 : (({ data := #[45] } : ByteArray) ++ s).size ≤ 140737488357000 := by rw [size_one]; omega
  have HP : Hid (numS (bts ({ data := #[43] } ++ s) 0) b = r) := Lib.hid (by rw [bts_one]; exact numS_pos HUN.out hr)
  have hs43 : (({ data := #[43] } : ByteArray) ++ s).size ≤ 140737488357000 := by rw [size_one]; omega
  clear hr
  go_wp2_with fail
  refine (setString_s s b a0 a1 a2 _ (by omega) (HS.out.ext (Ext.refl w)) hb hb2).mono ?_
  rintro e w1 ⟨he, y, rfl, n1, b1, l1, c1, rfl, hy⟩
  rw [HN.out] at hy ⊢
  have HE1 := Lib.hid ((Ext.refl w).trans he)
  have HX1 := Lib.hid he
  have HY1 := Lib.hid hy
  clear he hy
  go_wp2_with fail
  refine (setString_s _ b a0 a1 a2 _ hs45 (HS.out.ext (HE1.out.trans (Ext.alloc _ _))) hb hb2).mono ?_
  rintro e w2 ⟨he, y, rfl, n2, b2, l2, c2, rfl, hy⟩
  rw [HM.out] at hy ⊢
  rw [map_val] at hy
  rw [map_some]
  have HE2 := Lib.hid ((HE1.out.trans (Ext.alloc _ _)).trans he)
  have HX2 := Lib.hid he
  have HY2 := Lib.hid hy
  clear he hy
  go_wp2_with fail
  refine (setString_s _ b a0 a1 a2 _ hs43 (HS.out.ext (HE2.out.trans (Ext.alloc _ _))) hb hb2).mono ?_
  rintro e w3 ⟨he, y, rfl, n3, b3, l3, c3, rfl, hy⟩
  rw [HP.out] at hy ⊢
  have HE3 := Lib.hid ((HE2.out.trans (Ext.alloc _ _)).trans he)
  have HX3 := Lib.hid he
  have HY3 := Lib.hid hy
  clear he hy
  go_wp2_with fail
  refine (specSetString_s s b _ (by omega) hb hb2).mono ?_
  rintro e w4 ⟨he, y, rfl, n4, b4, l4, c4, rfl, hy⟩
  rw [HN.out] at hy ⊢
  have HE4 := Lib.hid ((HE3.out.trans (Ext.alloc _ _)).trans he)
  have HX4 := Lib.hid he
  have HY4 := Lib.hid hy
  clear he hy
  generalize r.isSome = ok at *
  generalize r.getD 0 = z at *
  go_wp2_with fail
  have g1 : (w4.alloc (.cells #[.bool n4, .slice b4 l4 c4] 38)).heap[w1.heap.size]? = some (.cells #[.bool n1, .slice b1 l1 c1] 26) := ((HX2.out.trans (Ext.alloc _ (.cells #[.bool n2, .slice b2 l2 c2] 26))).trans ((HX3.out.trans (Ext.alloc _ (.cells #[.bool n3, .slice b3 l3 c3] 26))).trans ((HX4.out.trans (Ext.alloc _ (.cells #[.bool n4, .slice b4 l4 c4] 38))).trans (Ext.refl (w4.alloc (.cells #[.bool n4, .slice b4 l4 c4] 38)))))).block (heap_alloc_new _ _)
  have z1 := HY1.out.ext ((Ext.alloc _ (.cells #[.bool n1, .slice b1 l1 c1] 26)).trans ((HX2.out.trans (Ext.alloc _ (.cells #[.bool n2, .slice b2 l2 c2] 26))).trans ((HX3.out.trans (Ext.alloc _ (.cells #[.bool n3, .slice b3 l3 c3] 26))).trans ((HX4.out.trans (Ext.alloc _ (.cells #[.bool n4, .slice b4 l4 c4] 38))).trans (Ext.refl (w4.alloc (.cells #[.bool n4, .slice b4 l4 c4] 38)))))))
  have g2 : (w4.alloc (.cells #[.bool n4, .slice b4 l4 c4] 38)).heap[w2.heap.size]? = some (.cells #[.bool n2, .slice b2 l2 c2] 26) := ((HX3.out.trans (Ext.alloc _ (.cells #[.bool n3, .slice b3 l3 c3] 26))).trans ((HX4.out.trans (Ext.alloc _ (.cells #[.bool n4, .slice b4 l4 c4] 38))).trans (Ext.refl (w4.alloc (.cells #[.bool n4, .slice b4 l4 c4] 38))))).block (heap_alloc_new _ _)
  have z2 := HY2.out.ext ((Ext.alloc _ (.cells #[.bool n2, .slice b2 l2 c2] 26)).trans ((HX3.out.trans (Ext.alloc _ (.cells #[.bool n3, .slice b3 l3 c3] 26))).trans ((HX4.out.trans (Ext.alloc _ (.cells #[.bool n4, .slice b4 l4 c4] 38))).trans (Ext.refl (w4.alloc (.cells #[.bool n4, .slice b4 l4 c4] 38))))))
  have g3 : (w4.alloc (.cells #[.bool n4, .slice b4 l4 c4] 38)).heap[w3.heap.size]? = some (.cells #[.bool n3, .slice b3 l3 c3] 26) := ((HX4.out.trans (Ext.alloc _ (.cells #[.bool n4, .slice b4 l4 c4] 38))).trans (Ext.refl (w4.alloc (.cells #[.bool n4, .slice b4 l4 c4] 38)))).block (heap_alloc_new _ _)
  have z3 := HY3.out.ext ((Ext.alloc _ (.cells #[.bool n3, .slice b3 l3 c3] 26)).trans ((HX4.out.trans (Ext.alloc _ (.cells #[.bool n4, .slice b4 l4 c4] 38))).trans (Ext.refl (w4.alloc (.cells #[.bool n4, .slice b4 l4 c4] 38)))))
  have g4 : (w4.alloc (.cells #[.bool n4, .slice b4 l4 c4] 38)).heap[w4.heap.size]? = some (.cells #[.bool n4, .slice b4 l4 c4] 38) := (Ext.refl (w4.alloc (.cells #[.bool n4, .slice b4 l4 c4] 38))).block (heap_alloc_new _ _)
  have z4 := HY4.out.ext ((Ext.alloc _ (.cells #[.bool n4, .slice b4 l4 c4] 38)).trans (Ext.refl (w4.alloc (.cells #[.bool n4, .slice b4 l4 c4] 38))))
  have hW : Ext w (w4.alloc (.cells #[.bool n4, .slice b4 l4 c4] 38)) := HE4.out.trans (Ext.alloc _ _)
  generalize (w4.alloc (.cells #[.bool n4, .slice b4 l4 c4] 38)) = W at *
  have G1 := Lib.hid g1
  have HZ1 := Lib.hid z1
  have G2 := Lib.hid g2
  have HZ2 := Lib.hid z2
  have G3 := Lib.hid g3
  have HZ3 := Lib.hid z3
  have G4 := Lib.hid g4
  have HZ4 := Lib.hid z4
  have HW := Lib.hid hW
  clear hW g1 z1 g2 z2 g3 z3 g4 z4
  generalize w1.heap.size = p1 at *
  generalize w2.heap.size = p2 at *
  generalize w3.heap.size = p3 at *
  generalize w4.heap.size = p4 at *

  refine wp_region_D preExt mixed [Is (.bool ok), Is (.bool ok), Is (.bool true), Is (.bool true), Is (.bool ok), Is (.bool ok), Is (.bool true), Is (.bool true), Is (.bool true), Is (.bool ok), Is (.bool ok), Is (.bool true), Is (.bool true), Is (.bool true), IsC (13194139533500) (-z), IsC (13194139533500) (z), IsC (13194139533500) (-(z)), Is (.bool true), Is (.bool true), Is (.bool true), IsC (13194139533500) (z), IsC (13194139533500) (z), Is (.bool true), Is (.bool true)] (by kernel_rfl) ?mono rfl ?steps ?last
  case mono =>
    simp only [List.forall_mem_cons, List.not_mem_nil, false_implies, implies_true, and_true]
    refine ⟨?_, ?_, ?_, ?_, ?_, ?_, ?_, ?_, ?_, ?_, ?_, ?_, ?_, ?_, ?_, ?_, ?_, ?_, ?_, ?_, ?_, ?_, ?_, ?_⟩
    all_goals first | exact fun _ _ _ _ q => q | exact fun _ _ _ he q => q.ext he
  case steps =>
    refine ⟨?_, ?_, ?_, ?_, ?_, ?_, ?_, ?_, ?_, ?_, ?_, ?_, ?_, ?_, ?_, ?_, ?_, ?_, ?_, ?_, ?_, ?_, ?_, ?_, trivial⟩
    all_goals
      intro u0 u1 u2 u3 u4 u5 u6 u7 u8 u9 u10 u11 u12 u13 u14 u15 u16 u17 u18 u19 u20 u21 u22 u23 u24 w1 he hk
      simp [KnownD, Oper.looksAt, Op.operands, Call.operands, List.findIdx?_cons, Act.put] at hk
      simp only [Act.put, List.setIfInBounds_toArray, List.set_cons_succ, List.set_cons_zero]
    · go_wp2_with fail
      exact ⟨rfl, Ext.refl _, by show (_ : Value) = _; (first | rfl | simp); try rfl⟩
    · go_wp2_with fail
      exact ⟨rfl, Ext.refl _, by show (_ : Value) = _; (first | rfl | simp); try rfl⟩
    · obtain ⟨k0, k1⟩ := hk
      obtain rfl : u0 = .bool ok := k0
      obtain rfl : u1 = .bool ok := k1
      go_wp2_with fail
      exact ⟨rfl, Ext.refl _, by show (_ : Value) = _; (simp); try rfl⟩
    · have k0 := hk
      obtain rfl : u2 = .bool true := k0
      go_wp2_with fail
      exact ⟨rfl, Ext.refl _, by show (_ : Value) = _; (first | rfl | simp); try rfl⟩
    · have k0 := hk
      obtain rfl : u3 = .bool true := k0
      go_wp2_with fail
      exact ⟨rfl, Ext.refl _, by show (_ : Value) = _; (first | rfl | simp); try rfl⟩
    · have k0 := hk
      obtain rfl : u3 = .bool true := k0
      go_wp2_with fail
      exact ⟨rfl, Ext.refl _, by show (_ : Value) = _; (first | rfl | simp); try rfl⟩
    · obtain ⟨k0, k1, k2⟩ := hk
      obtain rfl : u4 = .bool ok := k0
      obtain rfl : u5 = .bool ok := k1
      obtain rfl : u3 = .bool true := k2
      go_wp2_with fail
      exact ⟨rfl, Ext.refl _, by show (_ : Value) = _; (simp); try rfl⟩
    · obtain ⟨k0, k1⟩ := hk
      obtain rfl : u3 = .bool true := k0
      obtain rfl : u6 = .bool true := k1
      go_wp2_with fail
      exact ⟨rfl, Ext.refl _, by show (_ : Value) = _; (first | rfl | simp); try rfl⟩
    · have k0 := hk
      obtain rfl : u7 = .bool true := k0
      go_wp2_with fail
      exact ⟨rfl, Ext.refl _, by show (_ : Value) = _; (first | rfl | simp); try rfl⟩
    · have k0 := hk
      obtain rfl : u8 = .bool true := k0
      go_wp2_with fail
      exact ⟨rfl, Ext.refl _, by show (_ : Value) = _; (first | rfl | simp); try rfl⟩
    · have k0 := hk
      obtain rfl : u8 = .bool true := k0
      go_wp2_with fail
      exact ⟨rfl, Ext.refl _, by show (_ : Value) = _; (first | rfl | simp); try rfl⟩
    · obtain ⟨k0, k1, k2⟩ := hk
      obtain rfl : u9 = .bool ok := k0
      obtain rfl : u10 = .bool ok := k1
      obtain rfl : u8 = .bool true := k2
      go_wp2_with fail
      exact ⟨rfl, Ext.refl _, by show (_ : Value) = _; (simp); try rfl⟩
    · obtain ⟨k0, k1⟩ := hk
      obtain rfl : u8 = .bool true := k0
      obtain rfl : u11 = .bool true := k1
      go_wp2_with fail
      exact ⟨rfl, Ext.refl _, by show (_ : Value) = _; (first | rfl | simp); try rfl⟩
    · have k0 := hk
      obtain rfl : u12 = .bool true := k0
      go_wp2_with fail
      exact ⟨rfl, Ext.refl _, by show (_ : Value) = _; (first | rfl | simp); try rfl⟩
    · have k0 := hk
      obtain rfl : u13 = .bool true := k0
      have hb := he.block G2.out
      have q0 := blk_cell hb 0
      have q1 := blk_cell hb 1
      simp at q0 q1
      clear hb
      go_wp2_with fail
      exact ⟨rfl, Ext.refl _, HZ2.out.ext he⟩
    · have k0 := hk
      obtain rfl : u13 = .bool true := k0
      have hb := he.block G1.out
      have q0 := blk_cell hb 0
      have q1 := blk_cell hb 1
      simp at q0 q1
      clear hb
      go_wp2_with fail
      exact ⟨rfl, Ext.refl _, HZ1.out.ext he⟩
    · obtain ⟨k0, k1⟩ := hk
      obtain rfl : u13 = .bool true := k1
      have H0 := Lib.hid k0
      clear k0
      go_wp2_with fail
      refine (neg_z (13194139533500) (z) _ _ (H0.out.z) (by omega)).mono ?_
      rintro e w2 ⟨he2, x, rfl, hx⟩
      have HX := Lib.hid hx
      clear hx
      go_wp2_with fail
      exact ⟨rfl, he2, HX.out⟩
    · obtain ⟨k0, k1, k2⟩ := hk
      obtain rfl : u13 = .bool true := k2
      have H0 : Hid (IsC (13194139533500) (-z) u14 w1) := Lib.hid (by first | exact k0 | simpa using k0)
      have H1 : Hid (IsC (13194139533500) (-(z)) u16 w1) := Lib.hid (by first | exact k1 | simpa using k1)
      clear k0 k1
      go_wp2_with fail
      refine (same_z (13194139533500) (13194139533500) (-z) (-(z)) _ _ _ (H0.out.z) (H1.out.z) (by omega) (by omega)).mono ?_
      rintro e w2 ⟨he2, x, rfl, hx⟩
      obtain rfl : x = .bool true := hx.trans (by simp)
      go_wp2_with fail
      exact ⟨rfl, he2, rfl⟩
    · obtain ⟨k0, k1⟩ := hk
      obtain rfl : u13 = .bool true := k0
      obtain rfl : u17 = .bool true := k1
      go_wp2_with fail
      exact ⟨rfl, Ext.refl _, by show (_ : Value) = _; (first | rfl | simp); try rfl⟩
    · have k0 := hk
      obtain rfl : u18 = .bool true := k0
      go_wp2_with fail
      exact ⟨rfl, Ext.refl _, by show (_ : Value) = _; (first | rfl | simp); try rfl⟩
    · have k0 := hk
      obtain rfl : u19 = .bool true := k0
      have hb := he.block G3.out
      have q0 := blk_cell hb 0
      have q1 := blk_cell hb 1
      simp at q0 q1
      clear hb
      go_wp2_with fail
      exact ⟨rfl, Ext.refl _, HZ3.out.ext he⟩
    · have k0 := hk
      obtain rfl : u19 = .bool true := k0
      have hb := he.block G1.out
      have q0 := blk_cell hb 0
      have q1 := blk_cell hb 1
      simp at q0 q1
      clear hb
      go_wp2_with fail
      exact ⟨rfl, Ext.refl _, HZ1.out.ext he⟩
    · obtain ⟨k0, k1, k2⟩ := hk
      obtain rfl : u19 = .bool true := k2
      have H0 := Lib.hid k0
      have H1 := Lib.hid k1
      clear k0 k1
      go_wp2_with fail
      refine (same_z (13194139533500) (13194139533500) (z) (z) _ _ _ (H0.out.z) (H1.out.z) (by omega) (by omega)).mono ?_
      rintro e w2 ⟨he2, x, rfl, hx⟩
      obtain rfl : x = .bool true := hx.trans (by simp)
      go_wp2_with fail
      exact ⟨rfl, he2, rfl⟩
    · obtain ⟨k0, k1⟩ := hk
      obtain rfl : u19 = .bool true := k0
      obtain rfl : u22 = .bool true := k1
      go_wp2_with fail
      exact ⟨rfl, Ext.refl _, by show (_ : Value) = _; (first | rfl | simp); try rfl⟩
  case last =>
    intro w1 he u0 h0 u1 h1 u2 h2 u3 h3 u4 h4 u5 h5 u6 h6 u7 h7 u8 h8 u9 h9 u10 h10 u11 h11 u12 h12 u13 h13 u14 h14 u15 h15 u16 h16 u17 h17 u18 h18 u19 h19 u20 h20 u21 h21 u22 h22 u23 h23
    obtain rfl : u23 = .bool true := h23
    clear h0 h1 h2 h3 h4 h5 h6 h7 h8 h9 h10 h11 h12 h13 h14 h15 h16 h17 h18 h19 h20 h21 h22
    simp only [LastD, Act.put, List.setIfInBounds_toArray, List.set_cons_succ, List.set_cons_zero]
    have HE := Lib.hid ((HW.out).trans he)
    clear he
    go_wp2_with fail
    go_ret
    exact ⟨HE.out, rfl⟩

end Go.Proofs.YtocadbghhoibnaaFmt

