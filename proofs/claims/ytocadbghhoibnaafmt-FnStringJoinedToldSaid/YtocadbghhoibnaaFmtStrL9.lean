/- FnStringJoined (printed by lawgen.py). -/
import Derived.Test.YtocadbghhoibnaaFmtMa5
import Derived.Test.YtocadbghhoibnaaFmtMa6
import Derived.Test.YtocadbghhoibnaaFmtMa1
import Derived.Test.YtocadbghhoibnaaFmtMb2
import Derived.Test.YtocadbghhoibnaaFmtMb3
set_option linter.unusedSimpArgs false
set_option linter.unusedVariables false
namespace Go.Proofs.YtocadbghhoibnaaFmt
open Go.RowKit

theorem numS_nat {l : List Nat} {b : Nat} {x : Int} (h : unsg l) (h1 : numS l b = some x) : ∃ n : Nat, natS l b = some n ∧ x = (n : Int) := by
  rw [numS_un h] at h1
  cases hq : natS l b with
  | none => rw [hq] at h1; cases h1
  | some n => rw [hq] at h1; exact ⟨n, rfl, (Option.some.inj h1).symm⟩

theorem numS_join {l m : List Nat} {b k n : Nat} {x y : Int} (hl : unsg l) (hm : unsg m) (hb : b ≠ 0) (h1 : numS l b = some x) (h2 : numS m b = some y) (hn : m.length = n) (hp : b = 2 ^ k) : numS (l ++ m) b = some (x * 2 ^ (k * n) + y) := by
  obtain ⟨x', h3, rfl⟩ := numS_nat hl h1
  obtain ⟨y', h4, rfl⟩ := numS_nat hm h2
  have hlm : unsg (l ++ m) := by
    cases l with
    | nil => exact hm
    | cons c l =>
      intro t
      constructor
      · intro q; have := (List.cons.inj q).1; exact (hl l).1 (by rw [this])
      · intro q; have := (List.cons.inj q).1; exact (hl l).2 (by rw [this])
  rw [numS_un hlm, natS_join hb h3 h4, hn, hp, ← Nat.pow_mul]
  show some ((x' * 2 ^ (k * n) + y' : Nat) : Int) = _
  push_cast
  rfl

theorem lsh_up (q : Nat) (x : Int) (v : Value) (w : World) (h : IsZ 13194139533500 x v w) (hq : q ≤ 4000) :
    Calls Tryf.prog 24 #[v, .int .u64 (q : Nat)] w (ResR (IsC 13194139533600 (x * 2 ^ q)) w) := by
  refine (lsh_z 13194139533500 x q v w h (by omega) (by omega)).mono ?_
  rintro e w' ⟨he, y, rfl, hy⟩
  exact ⟨he, y, rfl, hy.mono (by omega)⟩

set_option maxRecDepth 100000 in
set_option maxHeartbeats 4000000 in
theorem fnStringJoined_walk1 (s t : ByteArray) (a0 a1 a2 : Addr) (w : World) (hS : Sent a0 a1 a2 w) (hs : s.size ≤ 140737488351232) (ht : t.size ≤ 140737488351232) :
    Calls Tryf.prog 4 #[.string s, .string t, .int .u64 1] w (ValR (.bool true) w) := by
  have HS := Lib.hid hS
  clear hS
  go_enter Tryf.func4, Tryf.ntmps4
  by_cases h800 : t.size ≤ 800
  rotate_left 1
  · have em : decide (800 < t.size) = true := decide_eq_true (by omega)
    have em2 : decide ((800 : Int) < (t.size : Int)) = true := decide_eq_true (by omega)
    go_wp2_with fail
    go_ret
    exact ⟨Ext.refl _, rfl⟩
  have em : decide (800 < t.size) = false := decide_eq_false (by omega)
  have em2 : decide ((800 : Int) < (t.size : Int)) = false := decide_eq_false (by omega)
  go_wp2_with fail
  refine (signed_any s _ (by omega)).mono ?_
  rintro e w' ⟨rfl, rfl⟩
  by_cases hG : sgd (bts s 0) = true
  · rw [hG]
    clear hG
    go_wp2_with fail
    go_ret
    exact ⟨Ext.refl _, rfl⟩
  replace hG : sgd (bts s 0) = false := by simpa using hG
  rw [hG]
  have HUN := Lib.hid (sgd_false hG)
  clear hG
  go_wp2_with fail
  refine (signed_any t _ (by omega)).mono ?_
  rintro e w' ⟨rfl, rfl⟩
  by_cases hG : sgd (bts t 0) = true
  · rw [hG]
    clear hG
    go_wp2_with fail
    go_ret
    exact ⟨Ext.refl _, rfl⟩
  replace hG : sgd (bts t 0) = false := by simpa using hG
  rw [hG]
  have HUT := Lib.hid (sgd_false hG)
  clear hG
  obtain ⟨r1, hr1⟩ : ∃ r, numS (bts s 0) 2 = r := ⟨_, rfl⟩
  obtain ⟨r2, hr2⟩ : ∃ r, numS (bts t 0) 2 = r := ⟨_, rfl⟩
  have HN1 := Lib.hid hr1
  have HN2 := Lib.hid hr2
  clear hr1 hr2
  go_wp2_with fail
  refine (specSetString_s s 2 _ (by omega) (.inr (by omega)) (by omega)).mono ?_
  rintro e w1 ⟨he, y, rfl, n1, b1, l1, c1, rfl, hy⟩
  rw [HN1.out] at hy ⊢
  have HE1 := Lib.hid ((Ext.refl w).trans he)
  have HX1 := Lib.hid he
  have HY1 := Lib.hid hy
  clear he hy
  go_wp2_with fail
  refine (specSetString_s t 2 _ (by omega) (.inr (by omega)) (by omega)).mono ?_
  rintro e w2 ⟨he, y, rfl, n2, b2, l2, c2, rfl, hy⟩
  rw [HN2.out] at hy ⊢
  have HE2 := Lib.hid ((HE1.out.trans (Ext.alloc _ _)).trans he)
  have HX2 := Lib.hid he
  have HY2 := Lib.hid hy
  clear he hy
  obtain ⟨k1, hk1⟩ : ∃ k, r1.isSome = k := ⟨_, rfl⟩
  obtain ⟨k2, hk2⟩ : ∃ k, r2.isSome = k := ⟨_, rfl⟩
  rw [hk2]
  simp only [hk1]
  have HK1 := Lib.hid hk1
  have HK2 := Lib.hid hk2
  clear hk1 hk2
  cases k1
  · go_wp2_with fail
    go_ret
    exact ⟨HE2.out.trans (Ext.alloc _ _), rfl⟩
  cases k2
  · go_wp2_with fail
    go_ret
    exact ⟨HE2.out.trans (Ext.alloc _ _), rfl⟩
  obtain ⟨x, hx⟩ := Option.isSome_iff_exists.1 HK1.out
  obtain ⟨y, hy⟩ := Option.isSome_iff_exists.1 HK2.out
  rw [hx] at HN1
  rw [hy] at HN2
  clear hx hy HK1 HK2
  have HM : Hid (numS (bts (s ++ t) 0) 2 = some (x * 2 ^ (1 * t.size) + y)) := Lib.hid (by rw [bts_append]; exact numS_join HUN.out HUT.out (by decide) HN1.out HN2.out (bts_len t 0) rfl)
  have hst : (s ++ t).size ≤ 140737488357000 := by rw [size_append]; omega
  go_wp2_with fail
  refine (setString_s s 2 a0 a1 a2 _ (by omega) (HS.out.ext (HE2.out.trans (Ext.alloc _ _))) (.inr (by omega)) (by omega)).mono ?_
  rintro e w3 ⟨he, y, rfl, n3, b3, l3, c3, rfl, hy⟩
  rw [HN1.out] at hy ⊢
  simp only [Option.isSome, Option.getD] at hy ⊢
  have HE3 := Lib.hid ((HE2.out.trans (Ext.alloc _ _)).trans he)
  have HX3 := Lib.hid he
  have HY3 := Lib.hid hy
  clear he hy
  go_wp2_with fail
  refine (setString_s t 2 a0 a1 a2 _ (by omega) (HS.out.ext (HE3.out.trans (Ext.alloc _ _))) (.inr (by omega)) (by omega)).mono ?_
  rintro e w4 ⟨he, y, rfl, n4, b4, l4, c4, rfl, hy⟩
  rw [HN2.out] at hy ⊢
  simp only [Option.isSome, Option.getD] at hy ⊢
  have HE4 := Lib.hid ((HE3.out.trans (Ext.alloc _ _)).trans he)
  have HX4 := Lib.hid he
  have HY4 := Lib.hid hy
  clear he hy
  go_wp2_with fail
  refine (setString_s _ 2 a0 a1 a2 _ hst (HS.out.ext (HE4.out.trans (Ext.alloc _ _))) (.inr (by omega)) (by omega)).mono ?_
  rintro e w5 ⟨he, y, rfl, n5, b5, l5, c5, rfl, hy⟩
  rw [HM.out] at hy ⊢
  simp only [Option.isSome, Option.getD] at hy ⊢
  have HE5 := Lib.hid ((HE4.out.trans (Ext.alloc _ _)).trans he)
  have HX5 := Lib.hid he
  have HY5 := Lib.hid hy
  clear he hy
  go_wp2_with fail
  have g1 : (w5.alloc (.cells #[.bool n5, .slice b5 l5 c5] 26)).heap[w1.heap.size]? = some (.cells #[.bool n1, .slice b1 l1 c1] 38) := ((HX2.out.trans (Ext.alloc _ (.cells #[.bool n2, .slice b2 l2 c2] 38))).trans ((HX3.out.trans (Ext.alloc _ (.cells #[.bool n3, .slice b3 l3 c3] 26))).trans ((HX4.out.trans (Ext.alloc _ (.cells #[.bool n4, .slice b4 l4 c4] 26))).trans ((HX5.out.trans (Ext.alloc _ (.cells #[.bool n5, .slice b5 l5 c5] 26))).trans (Ext.refl (w5.alloc (.cells #[.bool n5, .slice b5 l5 c5] 26))))))).block (heap_alloc_new _ _)
  have z1 := HY1.out.ext ((Ext.alloc _ (.cells #[.bool n1, .slice b1 l1 c1] 38)).trans ((HX2.out.trans (Ext.alloc _ (.cells #[.bool n2, .slice b2 l2 c2] 38))).trans ((HX3.out.trans (Ext.alloc _ (.cells #[.bool n3, .slice b3 l3 c3] 26))).trans ((HX4.out.trans (Ext.alloc _ (.cells #[.bool n4, .slice b4 l4 c4] 26))).trans ((HX5.out.trans (Ext.alloc _ (.cells #[.bool n5, .slice b5 l5 c5] 26))).trans (Ext.refl (w5.alloc (.cells #[.bool n5, .slice b5 l5 c5] 26))))))))
  have g2 : (w5.alloc (.cells #[.bool n5, .slice b5 l5 c5] 26)).heap[w2.heap.size]? = some (.cells #[.bool n2, .slice b2 l2 c2] 38) := ((HX3.out.trans (Ext.alloc _ (.cells #[.bool n3, .slice b3 l3 c3] 26))).trans ((HX4.out.trans (Ext.alloc _ (.cells #[.bool n4, .slice b4 l4 c4] 26))).trans ((HX5.out.trans (Ext.alloc _ (.cells #[.bool n5, .slice b5 l5 c5] 26))).trans (Ext.refl (w5.alloc (.cells #[.bool n5, .slice b5 l5 c5] 26)))))).block (heap_alloc_new _ _)
  have z2 := HY2.out.ext ((Ext.alloc _ (.cells #[.bool n2, .slice b2 l2 c2] 38)).trans ((HX3.out.trans (Ext.alloc _ (.cells #[.bool n3, .slice b3 l3 c3] 26))).trans ((HX4.out.trans (Ext.alloc _ (.cells #[.bool n4, .slice b4 l4 c4] 26))).trans ((HX5.out.trans (Ext.alloc _ (.cells #[.bool n5, .slice b5 l5 c5] 26))).trans (Ext.refl (w5.alloc (.cells #[.bool n5, .slice b5 l5 c5] 26)))))))
  have g3 : (w5.alloc (.cells #[.bool n5, .slice b5 l5 c5] 26)).heap[w3.heap.size]? = some (.cells #[.bool n3, .slice b3 l3 c3] 26) := ((HX4.out.trans (Ext.alloc _ (.cells #[.bool n4, .slice b4 l4 c4] 26))).trans ((HX5.out.trans (Ext.alloc _ (.cells #[.bool n5, .slice b5 l5 c5] 26))).trans (Ext.refl (w5.alloc (.cells #[.bool n5, .slice b5 l5 c5] 26))))).block (heap_alloc_new _ _)
  have z3 := HY3.out.ext ((Ext.alloc _ (.cells #[.bool n3, .slice b3 l3 c3] 26)).trans ((HX4.out.trans (Ext.alloc _ (.cells #[.bool n4, .slice b4 l4 c4] 26))).trans ((HX5.out.trans (Ext.alloc _ (.cells #[.bool n5, .slice b5 l5 c5] 26))).trans (Ext.refl (w5.alloc (.cells #[.bool n5, .slice b5 l5 c5] 26))))))
  have g4 : (w5.alloc (.cells #[.bool n5, .slice b5 l5 c5] 26)).heap[w4.heap.size]? = some (.cells #[.bool n4, .slice b4 l4 c4] 26) := ((HX5.out.trans (Ext.alloc _ (.cells #[.bool n5, .slice b5 l5 c5] 26))).trans (Ext.refl (w5.alloc (.cells #[.bool n5, .slice b5 l5 c5] 26)))).block (heap_alloc_new _ _)
  have z4 := HY4.out.ext ((Ext.alloc _ (.cells #[.bool n4, .slice b4 l4 c4] 26)).trans ((HX5.out.trans (Ext.alloc _ (.cells #[.bool n5, .slice b5 l5 c5] 26))).trans (Ext.refl (w5.alloc (.cells #[.bool n5, .slice b5 l5 c5] 26)))))
  have g5 : (w5.alloc (.cells #[.bool n5, .slice b5 l5 c5] 26)).heap[w5.heap.size]? = some (.cells #[.bool n5, .slice b5 l5 c5] 26) := (Ext.refl (w5.alloc (.cells #[.bool n5, .slice b5 l5 c5] 26))).block (heap_alloc_new _ _)
  have z5 := HY5.out.ext ((Ext.alloc _ (.cells #[.bool n5, .slice b5 l5 c5] 26)).trans (Ext.refl (w5.alloc (.cells #[.bool n5, .slice b5 l5 c5] 26))))
  have hW : Ext w (w5.alloc (.cells #[.bool n5, .slice b5 l5 c5] 26)) := HE5.out.trans (Ext.alloc _ _)
  generalize (w5.alloc (.cells #[.bool n5, .slice b5 l5 c5] 26)) = W at *
  have G1 := Lib.hid g1
  have HZ1 := Lib.hid z1
  have G2 := Lib.hid g2
  have HZ2 := Lib.hid z2
  have G3 := Lib.hid g3
  have HZ3 := Lib.hid z3
  have G4 := Lib.hid g4
  have HZ4 := Lib.hid z4
  have G5 := Lib.hid g5
  have HZ5 := Lib.hid z5
  have HW := Lib.hid hW
  clear hW g1 z1 g2 z2 g3 z3 g4 z4 g5 z5
  generalize w1.heap.size = p1 at *
  generalize w2.heap.size = p2 at *
  generalize w3.heap.size = p3 at *
  generalize w4.heap.size = p4 at *
  generalize w5.heap.size = p5 at *
  obtain ⟨q, hq⟩ : ∃ q, 1 * t.size = q := ⟨_, rfl⟩
  have hql : q ≤ 4000 := by omega
  rw [hq] at HZ5
  have HQ : Hid ((1 : Int) * (t.size : Int) = (q : Int)) := Lib.hid (by omega)
  clear hq

  refine wp_region_D preExt mixed [Is (.bool true), Is (.bool true), Is (.bool true), Is (.bool true), Is (.bool true), Is (.bool true), Is (.bool true), Is (.bool true), IsC (13194139533500) (x * 2 ^ q + y), IsC (13194139533500) (x), Is (.int .u64 1), Is (.string t), Is (.int .i64 (t.size : Nat)), Is (.int .u64 (t.size : Nat)), Is (.int .u64 (q : Nat)), IsC (13194139533600) (x * 2 ^ q), IsC (13194139533500) (y), IsC (13194139533601) (x * 2 ^ q + y), Is (.bool true), Is (.bool true)] (by kernel_rfl) ?mono rfl ?steps ?last
  case mono =>
    simp only [List.forall_mem_cons, List.not_mem_nil, false_implies, implies_true, and_true]
    refine ⟨?_, ?_, ?_, ?_, ?_, ?_, ?_, ?_, ?_, ?_, ?_, ?_, ?_, ?_, ?_, ?_, ?_, ?_, ?_, ?_⟩
    all_goals first | exact fun _ _ _ _ q => q | exact fun _ _ _ he q => q.ext he
  case steps =>
    refine ⟨?_, ?_, ?_, ?_, ?_, ?_, ?_, ?_, ?_, ?_, ?_, ?_, ?_, ?_, ?_, ?_, ?_, ?_, ?_, ?_, trivial⟩
    all_goals
      intro u0 u1 u2 u3 u4 u5 u6 u7 u8 u9 u10 u11 u12 u13 u14 u15 u16 u17 u18 u19 u20 w1 he hk
      simp [KnownD, Oper.looksAt, Op.operands, Call.operands, List.findIdx?_cons, Act.put] at hk
      simp only [Act.put, List.setIfInBounds_toArray, List.set_cons_succ, List.set_cons_zero]
    · go_wp2_with fail
      exact ⟨rfl, Ext.refl _, by show (_ : Value) = _; (first | rfl | simp); try rfl⟩
    · have k0 := hk
      obtain rfl : u0 = .bool true := k0
      go_wp2_with fail
      exact ⟨rfl, Ext.refl _, by show (_ : Value) = _; (first | rfl | simp); try rfl⟩
    · have k0 := hk
      obtain rfl : u1 = .bool true := k0
      go_wp2_with fail
      exact ⟨rfl, Ext.refl _, by show (_ : Value) = _; (first | rfl | simp); try rfl⟩
    · obtain ⟨k0, k1⟩ := hk
      obtain rfl : u1 = .bool true := k0
      obtain rfl : u2 = .bool true := k1
      go_wp2_with fail
      exact ⟨rfl, Ext.refl _, by show (_ : Value) = _; (first | rfl | simp); try rfl⟩
    · have k0 := hk
      obtain rfl : u3 = .bool true := k0
      go_wp2_with fail
      exact ⟨rfl, Ext.refl _, by show (_ : Value) = _; (first | rfl | simp); try rfl⟩
    · have k0 := hk
      obtain rfl : u4 = .bool true := k0
      go_wp2_with fail
      exact ⟨rfl, Ext.refl _, by show (_ : Value) = _; (first | rfl | simp); try rfl⟩
    · obtain ⟨k0, k1⟩ := hk
      obtain rfl : u4 = .bool true := k0
      obtain rfl : u5 = .bool true := k1
      go_wp2_with fail
      exact ⟨rfl, Ext.refl _, by show (_ : Value) = _; (first | rfl | simp); try rfl⟩
    · have k0 := hk
      obtain rfl : u6 = .bool true := k0
      go_wp2_with fail
      exact ⟨rfl, Ext.refl _, by show (_ : Value) = _; (first | rfl | simp); try rfl⟩
    · have k0 := hk
      obtain rfl : u7 = .bool true := k0
      have hb := he.block G5.out
      have q0 := blk_cell hb 0
      have q1 := blk_cell hb 1
      simp at q0 q1
      clear hb
      go_wp2_with fail
      exact ⟨rfl, Ext.refl _, HZ5.out.ext he⟩
    · have k0 := hk
      obtain rfl : u7 = .bool true := k0
      have hb := he.block G3.out
      have q0 := blk_cell hb 0
      have q1 := blk_cell hb 1
      simp at q0 q1
      clear hb
      go_wp2_with fail
      exact ⟨rfl, Ext.refl _, HZ3.out.ext he⟩
    · have k0 := hk
      obtain rfl : u7 = .bool true := k0
      go_wp2_with fail
      exact ⟨rfl, Ext.refl _, by show (_ : Value) = _; (first | rfl | simp); try rfl⟩
    · have k0 := hk
      obtain rfl : u7 = .bool true := k0
      go_wp2_with fail
      exact ⟨rfl, Ext.refl _, by show (_ : Value) = _; (first | rfl | simp); try rfl⟩
    · obtain ⟨k0, k1⟩ := hk
      obtain rfl : u11 = .string t := k0
      obtain rfl : u7 = .bool true := k1
      go_wp2_with fail
      exact ⟨rfl, Ext.refl _, by show (_ : Value) = _; (rfl); try rfl⟩
    · obtain ⟨k0, k1⟩ := hk
      obtain rfl : u12 = .int .i64 (t.size : Nat) := k0
      obtain rfl : u7 = .bool true := k1
      go_wp2_with fail
      exact ⟨rfl, Ext.refl _, by show (_ : Value) = _; (rfl); try rfl⟩
    · obtain ⟨k0, k1, k2⟩ := hk
      obtain rfl : u10 = .int .u64 1 := k0
      obtain rfl : u13 = .int .u64 (t.size : Nat) := k1
      obtain rfl : u7 = .bool true := k2
      go_wp2_with fail
      exact ⟨rfl, Ext.refl _, by show (_ : Value) = _; (rw [← HQ.out, Int.one_mul]); try rfl⟩
    · obtain ⟨k0, k1, k2⟩ := hk
      obtain rfl : u14 = .int .u64 (q : Nat) := k1
      obtain rfl : u7 = .bool true := k2
      have H0 := Lib.hid k0
      clear k0
      go_wp2_with fail
      refine (lsh_up q x _ _ H0.out.z hql).mono ?_
      rintro e w2 ⟨he2, x, rfl, hx⟩
      have HX := Lib.hid hx
      clear hx
      go_wp2_with fail
      exact ⟨rfl, he2, HX.out⟩
    · have k0 := hk
      obtain rfl : u7 = .bool true := k0
      have hb := he.block G4.out
      have q0 := blk_cell hb 0
      have q1 := blk_cell hb 1
      simp at q0 q1
      clear hb
      go_wp2_with fail
      exact ⟨rfl, Ext.refl _, HZ4.out.ext he⟩
    · obtain ⟨k0, k1, k2⟩ := hk
      obtain rfl : u7 = .bool true := k2
      have H0 : Hid (IsC (13194139533600) (x * 2 ^ q) u15 w1) := Lib.hid (by first | exact k0 | simpa using k0)
      have H1 := Lib.hid k1
      clear k0 k1
      go_wp2_with fail
      refine (add_z 13194139533600 (x * 2 ^ q) y _ _ _ H0.out.z (H1.out.z.mono (by omega)) (by omega)).mono ?_
      rintro e w2 ⟨he2, x, rfl, hx⟩
      have HX := Lib.hid hx
      clear hx
      go_wp2_with fail
      exact ⟨rfl, he2, HX.out⟩
    · obtain ⟨k0, k1, k2⟩ := hk
      obtain rfl : u7 = .bool true := k2
      have H0 : Hid (IsC (13194139533500) (x * 2 ^ q + y) u8 w1) := Lib.hid (by first | exact k0 | simpa using k0)
      have H1 : Hid (IsC (13194139533601) (x * 2 ^ q + y) u17 w1) := Lib.hid (by first | exact k1 | simpa using k1)
      clear k0 k1
      go_wp2_with fail
      refine (same_z (13194139533500) (13194139533601) (x * 2 ^ q + y) (x * 2 ^ q + y) _ _ _ (H0.out.z) (H1.out.z) (by omega) (by omega)).mono ?_
      rintro e w2 ⟨he2, x, rfl, hx⟩
      obtain rfl : x = .bool true := hx.trans (by simp)
      go_wp2_with fail
      exact ⟨rfl, he2, rfl⟩
    · obtain ⟨k0, k1⟩ := hk
      obtain rfl : u7 = .bool true := k0
      obtain rfl : u18 = .bool true := k1
      go_wp2_with fail
      exact ⟨rfl, Ext.refl _, by show (_ : Value) = _; (first | rfl | simp); try rfl⟩
  case last =>
    intro w1 he u0 h0 u1 h1 u2 h2 u3 h3 u4 h4 u5 h5 u6 h6 u7 h7 u8 h8 u9 h9 u10 h10 u11 h11 u12 h12 u13 h13 u14 h14 u15 h15 u16 h16 u17 h17 u18 h18 u19 h19
    obtain rfl : u19 = .bool true := h19
    clear h0 h1 h2 h3 h4 h5 h6 h7 h8 h9 h10 h11 h12 h13 h14 h15 h16 h17 h18
    simp only [LastD, Act.put, List.setIfInBounds_toArray, List.set_cons_succ, List.set_cons_zero]
    have HE := Lib.hid ((HW.out).trans he)
    clear he
    go_wp2_with fail
    go_ret
    exact ⟨HE.out, rfl⟩

set_option maxRecDepth 100000 in
set_option maxHeartbeats 4000000 in
theorem fnStringJoined_walk2 (s t : ByteArray) (a0 a1 a2 : Addr) (w : World) (hS : Sent a0 a1 a2 w) (hs : s.size ≤ 140737488351232) (ht : t.size ≤ 140737488351232) :
    Calls Tryf.prog 4 #[.string s, .string t, .int .u64 2] w (ValR (.bool true) w) := by
  have HS := Lib.hid hS
  clear hS
  go_enter Tryf.func4, Tryf.ntmps4
  by_cases h800 : t.size ≤ 800
  rotate_left 1
  · have em : decide (800 < t.size) = true := decide_eq_true (by omega)
    have em2 : decide ((800 : Int) < (t.size : Int)) = true := decide_eq_true (by omega)
    go_wp2_with fail
    go_ret
    exact ⟨Ext.refl _, rfl⟩
  have em : decide (800 < t.size) = false := decide_eq_false (by omega)
  have em2 : decide ((800 : Int) < (t.size : Int)) = false := decide_eq_false (by omega)
  go_wp2_with fail
  refine (signed_any s _ (by omega)).mono ?_
  rintro e w' ⟨rfl, rfl⟩
  by_cases hG : sgd (bts s 0) = true
  · rw [hG]
    clear hG
    go_wp2_with fail
    go_ret
    exact ⟨Ext.refl _, rfl⟩
  replace hG : sgd (bts s 0) = false := by simpa using hG
  rw [hG]
  have HUN := Lib.hid (sgd_false hG)
  clear hG
  go_wp2_with fail
  refine (signed_any t _ (by omega)).mono ?_
  rintro e w' ⟨rfl, rfl⟩
  by_cases hG : sgd (bts t 0) = true
  · rw [hG]
    clear hG
    go_wp2_with fail
    go_ret
    exact ⟨Ext.refl _, rfl⟩
  replace hG : sgd (bts t 0) = false := by simpa using hG
  rw [hG]
  have HUT := Lib.hid (sgd_false hG)
  clear hG
  obtain ⟨r1, hr1⟩ : ∃ r, numS (bts s 0) 4 = r := ⟨_, rfl⟩
  obtain ⟨r2, hr2⟩ : ∃ r, numS (bts t 0) 4 = r := ⟨_, rfl⟩
  have HN1 := Lib.hid hr1
  have HN2 := Lib.hid hr2
  clear hr1 hr2
  go_wp2_with fail
  refine (specSetString_s s 4 _ (by omega) (.inr (by omega)) (by omega)).mono ?_
  rintro e w1 ⟨he, y, rfl, n1, b1, l1, c1, rfl, hy⟩
  rw [HN1.out] at hy ⊢
  have HE1 := Lib.hid ((Ext.refl w).trans he)
  have HX1 := Lib.hid he
  have HY1 := Lib.hid hy
  clear he hy
  go_wp2_with fail
  refine (specSetString_s t 4 _ (by omega) (.inr (by omega)) (by omega)).mono ?_
  rintro e w2 ⟨he, y, rfl, n2, b2, l2, c2, rfl, hy⟩
  rw [HN2.out] at hy ⊢
  have HE2 := Lib.hid ((HE1.out.trans (Ext.alloc _ _)).trans he)
  have HX2 := Lib.hid he
  have HY2 := Lib.hid hy
  clear he hy
  obtain ⟨k1, hk1⟩ : ∃ k, r1.isSome = k := ⟨_, rfl⟩
  obtain ⟨k2, hk2⟩ : ∃ k, r2.isSome = k := ⟨_, rfl⟩
  rw [hk2]
  simp only [hk1]
  have HK1 := Lib.hid hk1
  have HK2 := Lib.hid hk2
  clear hk1 hk2
  cases k1
  · go_wp2_with fail
    go_ret
    exact ⟨HE2.out.trans (Ext.alloc _ _), rfl⟩
  cases k2
  · go_wp2_with fail
    go_ret
    exact ⟨HE2.out.trans (Ext.alloc _ _), rfl⟩
  obtain ⟨x, hx⟩ := Option.isSome_iff_exists.1 HK1.out
  obtain ⟨y, hy⟩ := Option.isSome_iff_exists.1 HK2.out
  rw [hx] at HN1
  rw [hy] at HN2
  clear hx hy HK1 HK2
  have HM : Hid (numS (bts (s ++ t) 0) 4 = some (x * 2 ^ (2 * t.size) + y)) := Lib.hid (by rw [bts_append]; exact numS_join HUN.out HUT.out (by decide) HN1.out HN2.out (bts_len t 0) rfl)
  have hst : (s ++ t).size ≤ 140737488357000 := by rw [size_append]; omega
  go_wp2_with fail
  refine (setString_s s 4 a0 a1 a2 _ (by omega) (HS.out.ext (HE2.out.trans (Ext.alloc _ _))) (.inr (by omega)) (by omega)).mono ?_
  rintro e w3 ⟨he, y, rfl, n3, b3, l3, c3, rfl, hy⟩
  rw [HN1.out] at hy ⊢
  simp only [Option.isSome, Option.getD] at hy ⊢
  have HE3 := Lib.hid ((HE2.out.trans (Ext.alloc _ _)).trans he)
  have HX3 := Lib.hid he
  have HY3 := Lib.hid hy
  clear he hy
  go_wp2_with fail
  refine (setString_s t 4 a0 a1 a2 _ (by omega) (HS.out.ext (HE3.out.trans (Ext.alloc _ _))) (.inr (by omega)) (by omega)).mono ?_
  rintro e w4 ⟨he, y, rfl, n4, b4, l4, c4, rfl, hy⟩
  rw [HN2.out] at hy ⊢
  simp only [Option.isSome, Option.getD] at hy ⊢
  have HE4 := Lib.hid ((HE3.out.trans (Ext.alloc _ _)).trans he)
  have HX4 := Lib.hid he
  have HY4 := Lib.hid hy
  clear he hy
  go_wp2_with fail
  refine (setString_s _ 4 a0 a1 a2 _ hst (HS.out.ext (HE4.out.trans (Ext.alloc _ _))) (.inr (by omega)) (by omega)).mono ?_
  rintro e w5 ⟨he, y, rfl, n5, b5, l5, c5, rfl, hy⟩
  rw [HM.out] at hy ⊢
  simp only [Option.isSome, Option.getD] at hy ⊢
  have HE5 := Lib.hid ((HE4.out.trans (Ext.alloc _ _)).trans he)
  have HX5 := Lib.hid he
  have HY5 := Lib.hid hy
  clear he hy
  go_wp2_with fail
  have g1 : (w5.alloc (.cells #[.bool n5, .slice b5 l5 c5] 26)).heap[w1.heap.size]? = some (.cells #[.bool n1, .slice b1 l1 c1] 38) := ((HX2.out.trans (Ext.alloc _ (.cells #[.bool n2, .slice b2 l2 c2] 38))).trans ((HX3.out.trans (Ext.alloc _ (.cells #[.bool n3, .slice b3 l3 c3] 26))).trans ((HX4.out.trans (Ext.alloc _ (.cells #[.bool n4, .slice b4 l4 c4] 26))).trans ((HX5.out.trans (Ext.alloc _ (.cells #[.bool n5, .slice b5 l5 c5] 26))).trans (Ext.refl (w5.alloc (.cells #[.bool n5, .slice b5 l5 c5] 26))))))).block (heap_alloc_new _ _)
  have z1 := HY1.out.ext ((Ext.alloc _ (.cells #[.bool n1, .slice b1 l1 c1] 38)).trans ((HX2.out.trans (Ext.alloc _ (.cells #[.bool n2, .slice b2 l2 c2] 38))).trans ((HX3.out.trans (Ext.alloc _ (.cells #[.bool n3, .slice b3 l3 c3] 26))).trans ((HX4.out.trans (Ext.alloc _ (.cells #[.bool n4, .slice b4 l4 c4] 26))).trans ((HX5.out.trans (Ext.alloc _ (.cells #[.bool n5, .slice b5 l5 c5] 26))).trans (Ext.refl (w5.alloc (.cells #[.bool n5, .slice b5 l5 c5] 26))))))))
  have g2 : (w5.alloc (.cells #[.bool n5, .slice b5 l5 c5] 26)).heap[w2.heap.size]? = some (.cells #[.bool n2, .slice b2 l2 c2] 38) := ((HX3.out.trans (Ext.alloc _ (.cells #[.bool n3, .slice b3 l3 c3] 26))).trans ((HX4.out.trans (Ext.alloc _ (.cells #[.bool n4, .slice b4 l4 c4] 26))).trans ((HX5.out.trans (Ext.alloc _ (.cells #[.bool n5, .slice b5 l5 c5] 26))).trans (Ext.refl (w5.alloc (.cells #[.bool n5, .slice b5 l5 c5] 26)))))).block (heap_alloc_new _ _)
  have z2 := HY2.out.ext ((Ext.alloc _ (.cells #[.bool n2, .slice b2 l2 c2] 38)).trans ((HX3.out.trans (Ext.alloc _ (.cells #[.bool n3, .slice b3 l3 c3] 26))).trans ((HX4.out.trans (Ext.alloc _ (.cells #[.bool n4, .slice b4 l4 c4] 26))).trans ((HX5.out.trans (Ext.alloc _ (.cells #[.bool n5, .slice b5 l5 c5] 26))).trans (Ext.refl (w5.alloc (.cells #[.bool n5, .slice b5 l5 c5] 26)))))))
  have g3 : (w5.alloc (.cells #[.bool n5, .slice b5 l5 c5] 26)).heap[w3.heap.size]? = some (.cells #[.bool n3, .slice b3 l3 c3] 26) := ((HX4.out.trans (Ext.alloc _ (.cells #[.bool n4, .slice b4 l4 c4] 26))).trans ((HX5.out.trans (Ext.alloc _ (.cells #[.bool n5, .slice b5 l5 c5] 26))).trans (Ext.refl (w5.alloc (.cells #[.bool n5, .slice b5 l5 c5] 26))))).block (heap_alloc_new _ _)
  have z3 := HY3.out.ext ((Ext.alloc _ (.cells #[.bool n3, .slice b3 l3 c3] 26)).trans ((HX4.out.trans (Ext.alloc _ (.cells #[.bool n4, .slice b4 l4 c4] 26))).trans ((HX5.out.trans (Ext.alloc _ (.cells #[.bool n5, .slice b5 l5 c5] 26))).trans (Ext.refl (w5.alloc (.cells #[.bool n5, .slice b5 l5 c5] 26))))))
  have g4 : (w5.alloc (.cells #[.bool n5, .slice b5 l5 c5] 26)).heap[w4.heap.size]? = some (.cells #[.bool n4, .slice b4 l4 c4] 26) := ((HX5.out.trans (Ext.alloc _ (.cells #[.bool n5, .slice b5 l5 c5] 26))).trans (Ext.refl (w5.alloc (.cells #[.bool n5, .slice b5 l5 c5] 26)))).block (heap_alloc_new _ _)
  have z4 := HY4.out.ext ((Ext.alloc _ (.cells #[.bool n4, .slice b4 l4 c4] 26)).trans ((HX5.out.trans (Ext.alloc _ (.cells #[.bool n5, .slice b5 l5 c5] 26))).trans (Ext.refl (w5.alloc (.cells #[.bool n5, .slice b5 l5 c5] 26)))))
  have g5 : (w5.alloc (.cells #[.bool n5, .slice b5 l5 c5] 26)).heap[w5.heap.size]? = some (.cells #[.bool n5, .slice b5 l5 c5] 26) := (Ext.refl (w5.alloc (.cells #[.bool n5, .slice b5 l5 c5] 26))).block (heap_alloc_new _ _)
  have z5 := HY5.out.ext ((Ext.alloc _ (.cells #[.bool n5, .slice b5 l5 c5] 26)).trans (Ext.refl (w5.alloc (.cells #[.bool n5, .slice b5 l5 c5] 26))))
  have hW : Ext w (w5.alloc (.cells #[.bool n5, .slice b5 l5 c5] 26)) := HE5.out.trans (Ext.alloc _ _)
  generalize (w5.alloc (.cells #[.bool n5, .slice b5 l5 c5] 26)) = W at *
  have G1 := Lib.hid g1
  have HZ1 := Lib.hid z1
  have G2 := Lib.hid g2
  have HZ2 := Lib.hid z2
  have G3 := Lib.hid g3
  have HZ3 := Lib.hid z3
  have G4 := Lib.hid g4
  have HZ4 := Lib.hid z4
  have G5 := Lib.hid g5
  have HZ5 := Lib.hid z5
  have HW := Lib.hid hW
  clear hW g1 z1 g2 z2 g3 z3 g4 z4 g5 z5
  generalize w1.heap.size = p1 at *
  generalize w2.heap.size = p2 at *
  generalize w3.heap.size = p3 at *
  generalize w4.heap.size = p4 at *
  generalize w5.heap.size = p5 at *
  obtain ⟨q, hq⟩ : ∃ q, 2 * t.size = q := ⟨_, rfl⟩
  have hql : q ≤ 4000 := by omega
  rw [hq] at HZ5
  have HQ : Hid ((2 : Int) * (t.size : Int) = (q : Int)) := Lib.hid (by omega)
  clear hq

  refine wp_region_D preExt mixed [Is (.bool true), Is (.bool true), Is (.bool true), Is (.bool true), Is (.bool true), Is (.bool true), Is (.bool true), Is (.bool true), IsC (13194139533500) (x * 2 ^ q + y), IsC (13194139533500) (x), Is (.int .u64 2), Is (.string t), Is (.int .i64 (t.size : Nat)), Is (.int .u64 (t.size : Nat)), Is (.int .u64 (q : Nat)), IsC (13194139533600) (x * 2 ^ q), IsC (13194139533500) (y), IsC (13194139533601) (x * 2 ^ q + y), Is (.bool true), Is (.bool true)] (by kernel_rfl) ?mono rfl ?steps ?last
  case mono =>
    simp only [List.forall_mem_cons, List.not_mem_nil, false_implies, implies_true, and_true]
    refine ⟨?_, ?_, ?_, ?_, ?_, ?_, ?_, ?_, ?_, ?_, ?_, ?_, ?_, ?_, ?_, ?_, ?_, ?_, ?_, ?_⟩
    all_goals first | exact fun _ _ _ _ q => q | exact fun _ _ _ he q => q.ext he
  case steps =>
    refine ⟨?_, ?_, ?_, ?_, ?_, ?_, ?_, ?_, ?_, ?_, ?_, ?_, ?_, ?_, ?_, ?_, ?_, ?_, ?_, ?_, trivial⟩
    all_goals
      intro u0 u1 u2 u3 u4 u5 u6 u7 u8 u9 u10 u11 u12 u13 u14 u15 u16 u17 u18 u19 u20 w1 he hk
      simp [KnownD, Oper.looksAt, Op.operands, Call.operands, List.findIdx?_cons, Act.put] at hk
      simp only [Act.put, List.setIfInBounds_toArray, List.set_cons_succ, List.set_cons_zero]
    · go_wp2_with fail
      exact ⟨rfl, Ext.refl _, by show (_ : Value) = _; (first | rfl | simp); try rfl⟩
    · have k0 := hk
      obtain rfl : u0 = .bool true := k0
      go_wp2_with fail
      exact ⟨rfl, Ext.refl _, by show (_ : Value) = _; (first | rfl | simp); try rfl⟩
    · have k0 := hk
      obtain rfl : u1 = .bool true := k0
      go_wp2_with fail
      exact ⟨rfl, Ext.refl _, by show (_ : Value) = _; (first | rfl | simp); try rfl⟩
    · obtain ⟨k0, k1⟩ := hk
      obtain rfl : u1 = .bool true := k0
      obtain rfl : u2 = .bool true := k1
      go_wp2_with fail
      exact ⟨rfl, Ext.refl _, by show (_ : Value) = _; (first | rfl | simp); try rfl⟩
    · have k0 := hk
      obtain rfl : u3 = .bool true := k0
      go_wp2_with fail
      exact ⟨rfl, Ext.refl _, by show (_ : Value) = _; (first | rfl | simp); try rfl⟩
    · have k0 := hk
      obtain rfl : u4 = .bool true := k0
      go_wp2_with fail
      exact ⟨rfl, Ext.refl _, by show (_ : Value) = _; (first | rfl | simp); try rfl⟩
    · obtain ⟨k0, k1⟩ := hk
      obtain rfl : u4 = .bool true := k0
      obtain rfl : u5 = .bool true := k1
      go_wp2_with fail
      exact ⟨rfl, Ext.refl _, by show (_ : Value) = _; (first | rfl | simp); try rfl⟩
    · have k0 := hk
      obtain rfl : u6 = .bool true := k0
      go_wp2_with fail
      exact ⟨rfl, Ext.refl _, by show (_ : Value) = _; (first | rfl | simp); try rfl⟩
    · have k0 := hk
      obtain rfl : u7 = .bool true := k0
      have hb := he.block G5.out
      have q0 := blk_cell hb 0
      have q1 := blk_cell hb 1
      simp at q0 q1
      clear hb
      go_wp2_with fail
      exact ⟨rfl, Ext.refl _, HZ5.out.ext he⟩
    · have k0 := hk
      obtain rfl : u7 = .bool true := k0
      have hb := he.block G3.out
      have q0 := blk_cell hb 0
      have q1 := blk_cell hb 1
      simp at q0 q1
      clear hb
      go_wp2_with fail
      exact ⟨rfl, Ext.refl _, HZ3.out.ext he⟩
    · have k0 := hk
      obtain rfl : u7 = .bool true := k0
      go_wp2_with fail
      exact ⟨rfl, Ext.refl _, by show (_ : Value) = _; (first | rfl | simp); try rfl⟩
    · have k0 := hk
      obtain rfl : u7 = .bool true := k0
      go_wp2_with fail
      exact ⟨rfl, Ext.refl _, by show (_ : Value) = _; (first | rfl | simp); try rfl⟩
    · obtain ⟨k0, k1⟩ := hk
      obtain rfl : u11 = .string t := k0
      obtain rfl : u7 = .bool true := k1
      go_wp2_with fail
      exact ⟨rfl, Ext.refl _, by show (_ : Value) = _; (rfl); try rfl⟩
    · obtain ⟨k0, k1⟩ := hk
      obtain rfl : u12 = .int .i64 (t.size : Nat) := k0
      obtain rfl : u7 = .bool true := k1
      go_wp2_with fail
      exact ⟨rfl, Ext.refl _, by show (_ : Value) = _; (rfl); try rfl⟩
    · obtain ⟨k0, k1, k2⟩ := hk
      obtain rfl : u10 = .int .u64 2 := k0
      obtain rfl : u13 = .int .u64 (t.size : Nat) := k1
      obtain rfl : u7 = .bool true := k2
      go_wp2_with fail
      exact ⟨rfl, Ext.refl _, by show (_ : Value) = _; (rw [← HQ.out]); try rfl⟩
    · obtain ⟨k0, k1, k2⟩ := hk
      obtain rfl : u14 = .int .u64 (q : Nat) := k1
      obtain rfl : u7 = .bool true := k2
      have H0 := Lib.hid k0
      clear k0
      go_wp2_with fail
      refine (lsh_up q x _ _ H0.out.z hql).mono ?_
      rintro e w2 ⟨he2, x, rfl, hx⟩
      have HX := Lib.hid hx
      clear hx
      go_wp2_with fail
      exact ⟨rfl, he2, HX.out⟩
    · have k0 := hk
      obtain rfl : u7 = .bool true := k0
      have hb := he.block G4.out
      have q0 := blk_cell hb 0
      have q1 := blk_cell hb 1
      simp at q0 q1
      clear hb
      go_wp2_with fail
      exact ⟨rfl, Ext.refl _, HZ4.out.ext he⟩
    · obtain ⟨k0, k1, k2⟩ := hk
      obtain rfl : u7 = .bool true := k2
      have H0 : Hid (IsC (13194139533600) (x * 2 ^ q) u15 w1) := Lib.hid (by first | exact k0 | simpa using k0)
      have H1 := Lib.hid k1
      clear k0 k1
      go_wp2_with fail
      refine (add_z 13194139533600 (x * 2 ^ q) y _ _ _ H0.out.z (H1.out.z.mono (by omega)) (by omega)).mono ?_
      rintro e w2 ⟨he2, x, rfl, hx⟩
      have HX := Lib.hid hx
      clear hx
      go_wp2_with fail
      exact ⟨rfl, he2, HX.out⟩
    · obtain ⟨k0, k1, k2⟩ := hk
      obtain rfl : u7 = .bool true := k2
      have H0 : Hid (IsC (13194139533500) (x * 2 ^ q + y) u8 w1) := Lib.hid (by first | exact k0 | simpa using k0)
      have H1 : Hid (IsC (13194139533601) (x * 2 ^ q + y) u17 w1) := Lib.hid (by first | exact k1 | simpa using k1)
      clear k0 k1
      go_wp2_with fail
      refine (same_z (13194139533500) (13194139533601) (x * 2 ^ q + y) (x * 2 ^ q + y) _ _ _ (H0.out.z) (H1.out.z) (by omega) (by omega)).mono ?_
      rintro e w2 ⟨he2, x, rfl, hx⟩
      obtain rfl : x = .bool true := hx.trans (by simp)
      go_wp2_with fail
      exact ⟨rfl, he2, rfl⟩
    · obtain ⟨k0, k1⟩ := hk
      obtain rfl : u7 = .bool true := k0
      obtain rfl : u18 = .bool true := k1
      go_wp2_with fail
      exact ⟨rfl, Ext.refl _, by show (_ : Value) = _; (first | rfl | simp); try rfl⟩
  case last =>
    intro w1 he u0 h0 u1 h1 u2 h2 u3 h3 u4 h4 u5 h5 u6 h6 u7 h7 u8 h8 u9 h9 u10 h10 u11 h11 u12 h12 u13 h13 u14 h14 u15 h15 u16 h16 u17 h17 u18 h18 u19 h19
    obtain rfl : u19 = .bool true := h19
    clear h0 h1 h2 h3 h4 h5 h6 h7 h8 h9 h10 h11 h12 h13 h14 h15 h16 h17 h18
    simp only [LastD, Act.put, List.setIfInBounds_toArray, List.set_cons_succ, List.set_cons_zero]
    have HE := Lib.hid ((HW.out).trans he)
    clear he
    go_wp2_with fail
    go_ret
    exact ⟨HE.out, rfl⟩

set_option maxRecDepth 100000 in
set_option maxHeartbeats 4000000 in
theorem fnStringJoined_walk3 (s t : ByteArray) (a0 a1 a2 : Addr) (w : World) (hS : Sent a0 a1 a2 w) (hs : s.size ≤ 140737488351232) (ht : t.size ≤ 140737488351232) :
    Calls Tryf.prog 4 #[.string s, .string t, .int .u64 3] w (ValR (.bool true) w) := by
  have HS := Lib.hid hS
  clear hS
  go_enter Tryf.func4, Tryf.ntmps4
  by_cases h800 : t.size ≤ 800
  rotate_left 1
  · have em : decide (800 < t.size) = true := decide_eq_true (by omega)
    have em2 : decide ((800 : Int) < (t.size : Int)) = true := decide_eq_true (by omega)
    go_wp2_with fail
    go_ret
    exact ⟨Ext.refl _, rfl⟩
  have em : decide (800 < t.size) = false := decide_eq_false (by omega)
  have em2 : decide ((800 : Int) < (t.size : Int)) = false := decide_eq_false (by omega)
  go_wp2_with fail
  refine (signed_any s _ (by omega)).mono ?_
  rintro e w' ⟨rfl, rfl⟩
  by_cases hG : sgd (bts s 0) = true
  · rw [hG]
    clear hG
    go_wp2_with fail
    go_ret
    exact ⟨Ext.refl _, rfl⟩
  replace hG : sgd (bts s 0) = false := by simpa using hG
  rw [hG]
  have HUN := Lib.hid (sgd_false hG)
  clear hG
  go_wp2_with fail
  refine (signed_any t _ (by omega)).mono ?_
  rintro e w' ⟨rfl, rfl⟩
  by_cases hG : sgd (bts t 0) = true
  · rw [hG]
    clear hG
    go_wp2_with fail
    go_ret
    exact ⟨Ext.refl _, rfl⟩
  replace hG : sgd (bts t 0) = false := by simpa using hG
  rw [hG]
  have HUT := Lib.hid (sgd_false hG)
  clear hG
  obtain ⟨r1, hr1⟩ : ∃ r, numS (bts s 0) 8 = r := ⟨_, rfl⟩
  obtain ⟨r2, hr2⟩ : ∃ r, numS (bts t 0) 8 = r := ⟨_, rfl⟩
  have HN1 := Lib.hid hr1
  have HN2 := Lib.hid hr2
  clear hr1 hr2
  go_wp2_with fail
  refine (specSetString_s s 8 _ (by omega) (.inr (by omega)) (by omega)).mono ?_
  rintro e w1 ⟨he, y, rfl, n1, b1, l1, c1, rfl, hy⟩
  rw [HN1.out] at hy ⊢
  have HE1 := Lib.hid ((Ext.refl w).trans he)
  have HX1 := Lib.hid he
  have HY1 := Lib.hid hy
  clear he hy
  go_wp2_with fail
  refine (specSetString_s t 8 _ (by omega) (.inr (by omega)) (by omega)).mono ?_
  rintro e w2 ⟨he, y, rfl, n2, b2, l2, c2, rfl, hy⟩
  rw [HN2.out] at hy ⊢
  have HE2 := Lib.hid ((HE1.out.trans (Ext.alloc _ _)).trans he)
  have HX2 := Lib.hid he
  have HY2 := Lib.hid hy
  clear he hy
  obtain ⟨k1, hk1⟩ : ∃ k, r1.isSome = k := ⟨_, rfl⟩
  obtain ⟨k2, hk2⟩ : ∃ k, r2.isSome = k := ⟨_, rfl⟩
  rw [hk2]
  simp only [hk1]
  have HK1 := Lib.hid hk1
  have HK2 := Lib.hid hk2
  clear hk1 hk2
  cases k1
  · go_wp2_with fail
    go_ret
    exact ⟨HE2.out.trans (Ext.alloc _ _), rfl⟩
  cases k2
  · go_wp2_with fail
    go_ret
    exact ⟨HE2.out.trans (Ext.alloc _ _), rfl⟩
  obtain ⟨x, hx⟩ := Option.isSome_iff_exists.1 HK1.out
  obtain ⟨y, hy⟩ := Option.isSome_iff_exists.1 HK2.out
  rw [hx] at HN1
  rw [hy] at HN2
  clear hx hy HK1 HK2
  have HM : Hid (numS (bts (s ++ t) 0) 8 = some (x * 2 ^ (3 * t.size) + y)) := Lib.hid (by rw [bts_append]; exact numS_join HUN.out HUT.out (by decide) HN1.out HN2.out (bts_len t 0) rfl)
  have hst : (s ++ t).size ≤ 140737488357000 := by rw [size_append]; omega
  go_wp2_with fail
  refine (setString_s s 8 a0 a1 a2 _ (by omega) (HS.out.ext (HE2.out.trans (Ext.alloc _ _))) (.inr (by omega)) (by omega)).mono ?_
  rintro e w3 ⟨he, y, rfl, n3, b3, l3, c3, rfl, hy⟩
  rw [HN1.out] at hy ⊢
  simp only [Option.isSome, Option.getD] at hy ⊢
  have HE3 := Lib.hid ((HE2.out.trans (Ext.alloc _ _)).trans he)
  have HX3 := Lib.hid he
  have HY3 := Lib.hid hy
  clear he hy
  go_wp2_with fail
  refine (setString_s t 8 a0 a1 a2 _ (by omega) (HS.out.ext (HE3.out.trans (Ext.alloc _ _))) (.inr (by omega)) (by omega)).mono ?_
  rintro e w4 ⟨he, y, rfl, n4, b4, l4, c4, rfl, hy⟩
  rw [HN2.out] at hy ⊢
  simp only [Option.isSome, Option.getD] at hy ⊢
  have HE4 := Lib.hid ((HE3.out.trans (Ext.alloc _ _)).trans he)
  have HX4 := Lib.hid he
  have HY4 := Lib.hid hy
  clear he hy
  go_wp2_with fail
  refine (setString_s _ 8 a0 a1 a2 _ hst (HS.out.ext (HE4.out.trans (Ext.alloc _ _))) (.inr (by omega)) (by omega)).mono ?_
  rintro e w5 ⟨he, y, rfl, n5, b5, l5, c5, rfl, hy⟩
  rw [HM.out] at hy ⊢
  simp only [Option.isSome, Option.getD] at hy ⊢
  have HE5 := Lib.hid ((HE4.out.trans (Ext.alloc _ _)).trans he)
  have HX5 := Lib.hid he
  have HY5 := Lib.hid hy
  clear he hy
  go_wp2_with fail
  have g1 : (w5.alloc (.cells #[.bool n5, .slice b5 l5 c5] 26)).heap[w1.heap.size]? = some (.cells #[.bool n1, .slice b1 l1 c1] 38) := ((HX2.out.trans (Ext.alloc _ (.cells #[.bool n2, .slice b2 l2 c2] 38))).trans ((HX3.out.trans (Ext.alloc _ (.cells #[.bool n3, .slice b3 l3 c3] 26))).trans ((HX4.out.trans (Ext.alloc _ (.cells #[.bool n4, .slice b4 l4 c4] 26))).trans ((HX5.out.trans (Ext.alloc _ (.cells #[.bool n5, .slice b5 l5 c5] 26))).trans (Ext.refl (w5.alloc (.cells #[.bool n5, .slice b5 l5 c5] 26))))))).block (heap_alloc_new _ _)
  have z1 := HY1.out.ext ((Ext.alloc _ (.cells #[.bool n1, .slice b1 l1 c1] 38)).trans ((HX2.out.trans (Ext.alloc _ (.cells #[.bool n2, .slice b2 l2 c2] 38))).trans ((HX3.out.trans (Ext.alloc _ (.cells #[.bool n3, .slice b3 l3 c3] 26))).trans ((HX4.out.trans (Ext.alloc _ (.cells #[.bool n4, .slice b4 l4 c4] 26))).trans ((HX5.out.trans (Ext.alloc _ (.cells #[.bool n5, .slice b5 l5 c5] 26))).trans (Ext.refl (w5.alloc (.cells #[.bool n5, .slice b5 l5 c5] 26))))))))
  have g2 : (w5.alloc (.cells #[.bool n5, .slice b5 l5 c5] 26)).heap[w2.heap.size]? = some (.cells #[.bool n2, .slice b2 l2 c2] 38) := ((HX3.out.trans (Ext.alloc _ (.cells #[.bool n3, .slice b3 l3 c3] 26))).trans ((HX4.out.trans (Ext.alloc _ (.cells #[.bool n4, .slice b4 l4 c4] 26))).trans ((HX5.out.trans (Ext.alloc _ (.cells #[.bool n5, .slice b5 l5 c5] 26))).trans (Ext.refl (w5.alloc (.cells #[.bool n5, .slice b5 l5 c5] 26)))))).block (heap_alloc_new _ _)
  have z2 := HY2.out.ext ((Ext.alloc _ (.cells #[.bool n2, .slice b2 l2 c2] 38)).trans ((HX3.out.trans (Ext.alloc _ (.cells #[.bool n3, .slice b3 l3 c3] 26))).trans ((HX4.out.trans (Ext.alloc _ (.cells #[.bool n4, .slice b4 l4 c4] 26))).trans ((HX5.out.trans (Ext.alloc _ (.cells #[.bool n5, .slice b5 l5 c5] 26))).trans (Ext.refl (w5.alloc (.cells #[.bool n5, .slice b5 l5 c5] 26)))))))
  have g3 : (w5.alloc (.cells #[.bool n5, .slice b5 l5 c5] 26)).heap[w3.heap.size]? = some (.cells #[.bool n3, .slice b3 l3 c3] 26) := ((HX4.out.trans (Ext.alloc _ (.cells #[.bool n4, .slice b4 l4 c4] 26))).trans ((HX5.out.trans (Ext.alloc _ (.cells #[.bool n5, .slice b5 l5 c5] 26))).trans (Ext.refl (w5.alloc (.cells #[.bool n5, .slice b5 l5 c5] 26))))).block (heap_alloc_new _ _)
  have z3 := HY3.out.ext ((Ext.alloc _ (.cells #[.bool n3, .slice b3 l3 c3] 26)).trans ((HX4.out.trans (Ext.alloc _ (.cells #[.bool n4, .slice b4 l4 c4] 26))).trans ((HX5.out.trans (Ext.alloc _ (.cells #[.bool n5, .slice b5 l5 c5] 26))).trans (Ext.refl (w5.alloc (.cells #[.bool n5, .slice b5 l5 c5] 26))))))
  have g4 : (w5.alloc (.cells #[.bool n5, .slice b5 l5 c5] 26)).heap[w4.heap.size]? = some (.cells #[.bool n4, .slice b4 l4 c4] 26) := ((HX5.out.trans (Ext.alloc _ (.cells #[.bool n5, .slice b5 l5 c5] 26))).trans (Ext.refl (w5.alloc (.cells #[.bool n5, .slice b5 l5 c5] 26)))).block (heap_alloc_new _ _)
  have z4 := HY4.out.ext ((Ext.alloc _ (.cells #[.bool n4, .slice b4 l4 c4] 26)).trans ((HX5.out.trans (Ext.alloc _ (.cells #[.bool n5, .slice b5 l5 c5] 26))).trans (Ext.refl (w5.alloc (.cells #[.bool n5, .slice b5 l5 c5] 26)))))
  have g5 : (w5.alloc (.cells #[.bool n5, .slice b5 l5 c5] 26)).heap[w5.heap.size]? = some (.cells #[.bool n5, .slice b5 l5 c5] 26) := (Ext.refl (w5.alloc (.cells #[.bool n5, .slice b5 l5 c5] 26))).block (heap_alloc_new _ _)
  have z5 := HY5.out.ext ((Ext.alloc _ (.cells #[.bool n5, .slice b5 l5 c5] 26)).trans (Ext.refl (w5.alloc (.cells #[.bool n5, .slice b5 l5 c5] 26))))
  have hW : Ext w (w5.alloc (.cells #[.bool n5, .slice b5 l5 c5] 26)) := HE5.out.trans (Ext.alloc _ _)
  generalize (w5.alloc (.cells #[.bool n5, .slice b5 l5 c5] 26)) = W at *
  have G1 := Lib.hid g1
  have HZ1 := Lib.hid z1
  have G2 := Lib.hid g2
  have HZ2 := Lib.hid z2
  have G3 := Lib.hid g3
  have HZ3 := Lib.hid z3
  have G4 := Lib.hid g4
  have HZ4 := Lib.hid z4
  have G5 := Lib.hid g5
  have HZ5 := Lib.hid z5
  have HW := Lib.hid hW
  clear hW g1 z1 g2 z2 g3 z3 g4 z4 g5 z5
  generalize w1.heap.size = p1 at *
  generalize w2.heap.size = p2 at *
  generalize w3.heap.size = p3 at *
  generalize w4.heap.size = p4 at *
  generalize w5.heap.size = p5 at *
  obtain ⟨q, hq⟩ : ∃ q, 3 * t.size = q := ⟨_, rfl⟩
  have hql : q ≤ 4000 := by omega
  rw [hq] at HZ5
  have HQ : Hid ((3 : Int) * (t.size : Int) = (q : Int)) := Lib.hid (by omega)
  clear hq

  refine wp_region_D preExt mixed [Is (.bool true), Is (.bool true), Is (.bool true), Is (.bool true), Is (.bool true), Is (.bool true), Is (.bool true), Is (.bool true), IsC (13194139533500) (x * 2 ^ q + y), IsC (13194139533500) (x), Is (.int .u64 3), Is (.string t), Is (.int .i64 (t.size : Nat)), Is (.int .u64 (t.size : Nat)), Is (.int .u64 (q : Nat)), IsC (13194139533600) (x * 2 ^ q), IsC (13194139533500) (y), IsC (13194139533601) (x * 2 ^ q + y), Is (.bool true), Is (.bool true)] (by kernel_rfl) ?mono rfl ?steps ?last
  case mono =>
    simp only [List.forall_mem_cons, List.not_mem_nil, false_implies, implies_true, and_true]
    refine ⟨?_, ?_, ?_, ?_, ?_, ?_, ?_, ?_, ?_, ?_, ?_, ?_, ?_, ?_, ?_, ?_, ?_, ?_, ?_, ?_⟩
    all_goals first | exact fun _ _ _ _ q => q | exact fun _ _ _ he q => q.ext he
  case steps =>
    refine ⟨?_, ?_, ?_, ?_, ?_, ?_, ?_, ?_, ?_, ?_, ?_, ?_, ?_, ?_, ?_, ?_, ?_, ?_, ?_, ?_, trivial⟩
    all_goals
      intro u0 u1 u2 u3 u4 u5 u6 u7 u8 u9 u10 u11 u12 u13 u14 u15 u16 u17 u18 u19 u20 w1 he hk
      simp [KnownD, Oper.looksAt, Op.operands, Call.operands, List.findIdx?_cons, Act.put] at hk
      simp only [Act.put, List.setIfInBounds_toArray, List.set_cons_succ, List.set_cons_zero]
    · go_wp2_with fail
      exact ⟨rfl, Ext.refl _, by show (_ : Value) = _; (first | rfl | simp); try rfl⟩
    · have k0 := hk
      obtain rfl : u0 = .bool true := k0
      go_wp2_with fail
      exact ⟨rfl, Ext.refl _, by show (_ : Value) = _; (first | rfl | simp); try rfl⟩
    · have k0 := hk
      obtain rfl : u1 = .bool true := k0
      go_wp2_with fail
      exact ⟨rfl, Ext.refl _, by show (_ : Value) = _; (first | rfl | simp); try rfl⟩
    · obtain ⟨k0, k1⟩ := hk
      obtain rfl : u1 = .bool true := k0
      obtain rfl : u2 = .bool true := k1
      go_wp2_with fail
      exact ⟨rfl, Ext.refl _, by show (_ : Value) = _; (first | rfl | simp); try rfl⟩
    · have k0 := hk
      obtain rfl : u3 = .bool true := k0
      go_wp2_with fail
      exact ⟨rfl, Ext.refl _, by show (_ : Value) = _; (first | rfl | simp); try rfl⟩
    · have k0 := hk
      obtain rfl : u4 = .bool true := k0
      go_wp2_with fail
      exact ⟨rfl, Ext.refl _, by show (_ : Value) = _; (first | rfl | simp); try rfl⟩
    · obtain ⟨k0, k1⟩ := hk
      obtain rfl : u4 = .bool true := k0
      obtain rfl : u5 = .bool true := k1
      go_wp2_with fail
      exact ⟨rfl, Ext.refl _, by show (_ : Value) = _; (first | rfl | simp); try rfl⟩
    · have k0 := hk
      obtain rfl : u6 = .bool true := k0
      go_wp2_with fail
      exact ⟨rfl, Ext.refl _, by show (_ : Value) = _; (first | rfl | simp); try rfl⟩
    · have k0 := hk
      obtain rfl : u7 = .bool true := k0
      have hb := he.block G5.out
      have q0 := blk_cell hb 0
      have q1 := blk_cell hb 1
      simp at q0 q1
      clear hb
      go_wp2_with fail
      exact ⟨rfl, Ext.refl _, HZ5.out.ext he⟩
    · have k0 := hk
      obtain rfl : u7 = .bool true := k0
      have hb := he.block G3.out
      have q0 := blk_cell hb 0
      have q1 := blk_cell hb 1
      simp at q0 q1
      clear hb
      go_wp2_with fail
      exact ⟨rfl, Ext.refl _, HZ3.out.ext he⟩
    · have k0 := hk
      obtain rfl : u7 = .bool true := k0
      go_wp2_with fail
      exact ⟨rfl, Ext.refl _, by show (_ : Value) = _; (first | rfl | simp); try rfl⟩
    · have k0 := hk
      obtain rfl : u7 = .bool true := k0
      go_wp2_with fail
      exact ⟨rfl, Ext.refl _, by show (_ : Value) = _; (first | rfl | simp); try rfl⟩
    · obtain ⟨k0, k1⟩ := hk
      obtain rfl : u11 = .string t := k0
      obtain rfl : u7 = .bool true := k1
      go_wp2_with fail
      exact ⟨rfl, Ext.refl _, by show (_ : Value) = _; (rfl); try rfl⟩
    · obtain ⟨k0, k1⟩ := hk
      obtain rfl : u12 = .int .i64 (t.size : Nat) := k0
      obtain rfl : u7 = .bool true := k1
      go_wp2_with fail
      exact ⟨rfl, Ext.refl _, by show (_ : Value) = _; (rfl); try rfl⟩
    · obtain ⟨k0, k1, k2⟩ := hk
      obtain rfl : u10 = .int .u64 3 := k0
      obtain rfl : u13 = .int .u64 (t.size : Nat) := k1
      obtain rfl : u7 = .bool true := k2
      go_wp2_with fail
      exact ⟨rfl, Ext.refl _, by show (_ : Value) = _; (rw [← HQ.out]); try rfl⟩
    · obtain ⟨k0, k1, k2⟩ := hk
      obtain rfl : u14 = .int .u64 (q : Nat) := k1
      obtain rfl : u7 = .bool true := k2
      have H0 := Lib.hid k0
      clear k0
      go_wp2_with fail
      refine (lsh_up q x _ _ H0.out.z hql).mono ?_
      rintro e w2 ⟨he2, x, rfl, hx⟩
      have HX := Lib.hid hx
      clear hx
      go_wp2_with fail
      exact ⟨rfl, he2, HX.out⟩
    · have k0 := hk
      obtain rfl : u7 = .bool true := k0
      have hb := he.block G4.out
      have q0 := blk_cell hb 0
      have q1 := blk_cell hb 1
      simp at q0 q1
      clear hb
      go_wp2_with fail
      exact ⟨rfl, Ext.refl _, HZ4.out.ext he⟩
    · obtain ⟨k0, k1, k2⟩ := hk
      obtain rfl : u7 = .bool true := k2
      have H0 : Hid (IsC (13194139533600) (x * 2 ^ q) u15 w1) := Lib.hid (by first | exact k0 | simpa using k0)
      have H1 := Lib.hid k1
      clear k0 k1
      go_wp2_with fail
      refine (add_z 13194139533600 (x * 2 ^ q) y _ _ _ H0.out.z (H1.out.z.mono (by omega)) (by omega)).mono ?_
      rintro e w2 ⟨he2, x, rfl, hx⟩
      have HX := Lib.hid hx
      clear hx
      go_wp2_with fail
      exact ⟨rfl, he2, HX.out⟩
    · obtain ⟨k0, k1, k2⟩ := hk
      obtain rfl : u7 = .bool true := k2
      have H0 : Hid (IsC (13194139533500) (x * 2 ^ q + y) u8 w1) := Lib.hid (by first | exact k0 | simpa using k0)
      have H1 : Hid (IsC (13194139533601) (x * 2 ^ q + y) u17 w1) := Lib.hid (by first | exact k1 | simpa using k1)
      clear k0 k1
      go_wp2_with fail
      refine (same_z (13194139533500) (13194139533601) (x * 2 ^ q + y) (x * 2 ^ q + y) _ _ _ (H0.out.z) (H1.out.z) (by omega) (by omega)).mono ?_
      rintro e w2 ⟨he2, x, rfl, hx⟩
      obtain rfl : x = .bool true := hx.trans (by simp)
      go_wp2_with fail
      exact ⟨rfl, he2, rfl⟩
    · obtain ⟨k0, k1⟩ := hk
      obtain rfl : u7 = .bool true := k0
      obtain rfl : u18 = .bool true := k1
      go_wp2_with fail
      exact ⟨rfl, Ext.refl _, by show (_ : Value) = _; (first | rfl | simp); try rfl⟩
  case last =>
    intro w1 he u0 h0 u1 h1 u2 h2 u3 h3 u4 h4 u5 h5 u6 h6 u7 h7 u8 h8 u9 h9 u10 h10 u11 h11 u12 h12 u13 h13 u14 h14 u15 h15 u16 h16 u17 h17 u18 h18 u19 h19
    obtain rfl : u19 = .bool true := h19
    clear h0 h1 h2 h3 h4 h5 h6 h7 h8 h9 h10 h11 h12 h13 h14 h15 h16 h17 h18
    simp only [LastD, Act.put, List.setIfInBounds_toArray, List.set_cons_succ, List.set_cons_zero]
    have HE := Lib.hid ((HW.out).trans he)
    clear he
    go_wp2_with fail
    go_ret
    exact ⟨HE.out, rfl⟩

set_option maxRecDepth 100000 in
set_option maxHeartbeats 4000000 in
theorem fnStringJoined_walk4 (s t : ByteArray) (a0 a1 a2 : Addr) (w : World) (hS : Sent a0 a1 a2 w) (hs : s.size ≤ 140737488351232) (ht : t.size ≤ 140737488351232) :
    Calls Tryf.prog 4 #[.string s, .string t, .int .u64 4] w (ValR (.bool true) w) := by
  have HS := Lib.hid hS
  clear hS
  go_enter Tryf.func4, Tryf.ntmps4
  by_cases h800 : t.size ≤ 800
  rotate_left 1
  · have em : decide (800 < t.size) = true := decide_eq_true (by omega)
    have em2 : decide ((800 : Int) < (t.size : Int)) = true := decide_eq_true (by omega)
    go_wp2_with fail
    go_ret
    exact ⟨Ext.refl _, rfl⟩
  have em : decide (800 < t.size) = false := decide_eq_false (by omega)
  have em2 : decide ((800 : Int) < (t.size : Int)) = false := decide_eq_false (by omega)
  go_wp2_with fail
  refine (signed_any s _ (by omega)).mono ?_
  rintro e w' ⟨rfl, rfl⟩
  by_cases hG : sgd (bts s 0) = true
  · rw [hG]
    clear hG
    go_wp2_with fail
    go_ret
    exact ⟨Ext.refl _, rfl⟩
  replace hG : sgd (bts s 0) = false := by simpa using hG
  rw [hG]
  have HUN := Lib.hid (sgd_false hG)
  clear hG
  go_wp2_with fail
  refine (signed_any t _ (by omega)).mono ?_
  rintro e w' ⟨rfl, rfl⟩
  by_cases hG : sgd (bts t 0) = true
  · rw [hG]
    clear hG
    go_wp2_with fail
    go_ret
    exact ⟨Ext.refl _, rfl⟩
  replace hG : sgd (bts t 0) = false := by simpa using hG
  rw [hG]
  have HUT := Lib.hid (sgd_false hG)
  clear hG
  obtain ⟨r1, hr1⟩ : ∃ r, numS (bts s 0) 16 = r := ⟨_, rfl⟩
  obtain ⟨r2, hr2⟩ : ∃ r, numS (bts t 0) 16 = r := ⟨_, rfl⟩
  have HN1 := Lib.hid hr1
  have HN2 := Lib.hid hr2
  clear hr1 hr2
  go_wp2_with fail
  refine (specSetString_s s 16 _ (by omega) (.inr (by omega)) (by omega)).mono ?_
  rintro e w1 ⟨he, y, rfl, n1, b1, l1, c1, rfl, hy⟩
  rw [HN1.out] at hy ⊢
  have HE1 := Lib.hid ((Ext.refl w).trans he)
  have HX1 := Lib.hid he
  have HY1 := Lib.hid hy
  clear he hy
  go_wp2_with fail
  refine (specSetString_s t 16 _ (by omega) (.inr (by omega)) (by omega)).mono ?_
  rintro e w2 ⟨he, y, rfl, n2, b2, l2, c2, rfl, hy⟩
  rw [HN2.out] at hy ⊢
  have HE2 := Lib.hid ((HE1.out.trans (Ext.alloc _ _)).trans he)
  have HX2 := Lib.hid he
  have HY2 := Lib.hid hy
  clear he hy
  obtain ⟨k1, hk1⟩ : ∃ k, r1.isSome = k := ⟨_, rfl⟩
  obtain ⟨k2, hk2⟩ : ∃ k, r2.isSome = k := ⟨_, rfl⟩
  rw [hk2]
  simp only [hk1]
  have HK1 := Lib.hid hk1
  have HK2 := Lib.hid hk2
  clear hk1 hk2
  cases k1
  · go_wp2_with fail
    go_ret
    exact ⟨HE2.out.trans (Ext.alloc _ _), rfl⟩
  cases k2
  · go_wp2_with fail
    go_ret
    exact ⟨HE2.out.trans (Ext.alloc _ _), rfl⟩
  obtain ⟨x, hx⟩ := Option.isSome_iff_exists.1 HK1.out
  obtain ⟨y, hy⟩ := Option.isSome_iff_exists.1 HK2.out
  rw [hx] at HN1
  rw [hy] at HN2
  clear hx hy HK1 HK2
  have HM : Hid (numS (bts (s ++ t) 0) 16 = some (x * 2 ^ (4 * t.size) + y)) := Lib.hid (by rw [bts_append]; exact numS_join HUN.out HUT.out (by decide) HN1.out HN2.out (bts_len t 0) rfl)
  have hst : (s ++ t).size ≤ 140737488357000 := by rw [size_append]; omega
  go_wp2_with fail
  refine (setString_s s 16 a0 a1 a2 _ (by omega) (HS.out.ext (HE2.out.trans (Ext.alloc _ _))) (.inr (by omega)) (by omega)).mono ?_
  rintro e w3 ⟨he, y, rfl, n3, b3, l3, c3, rfl, hy⟩
  rw [HN1.out] at hy ⊢
  simp only [Option.isSome, Option.getD] at hy ⊢
  have HE3 := Lib.hid ((HE2.out.trans (Ext.alloc _ _)).trans he)
  have HX3 := Lib.hid he
  have HY3 := Lib.hid hy
  clear he hy
  go_wp2_with fail
  refine (setString_s t 16 a0 a1 a2 _ (by omega) (HS.out.ext (HE3.out.trans (Ext.alloc _ _))) (.inr (by omega)) (by omega)).mono ?_
  rintro e w4 ⟨he, y, rfl, n4, b4, l4, c4, rfl, hy⟩
  rw [HN2.out] at hy ⊢
  simp only [Option.isSome, Option.getD] at hy ⊢
  have HE4 := Lib.hid ((HE3.out.trans (Ext.alloc _ _)).trans he)
  have HX4 := Lib.hid he
  have HY4 := Lib.hid hy
  clear he hy
  go_wp2_with fail
  refine (setString_s _ 16 a0 a1 a2 _ hst (HS.out.ext (HE4.out.trans (Ext.alloc _ _))) (.inr (by omega)) (by omega)).mono ?_
  rintro e w5 ⟨he, y, rfl, n5, b5, l5, c5, rfl, hy⟩
  rw [HM.out] at hy ⊢
  simp only [Option.isSome, Option.getD] at hy ⊢
  have HE5 := Lib.hid ((HE4.out.trans (Ext.alloc _ _)).trans he)
  have HX5 := Lib.hid he
  have HY5 := Lib.hid hy
  clear he hy
  go_wp2_with fail
  have g1 : (w5.alloc (.cells #[.bool n5, .slice b5 l5 c5] 26)).heap[w1.heap.size]? = some (.cells #[.bool n1, .slice b1 l1 c1] 38) := ((HX2.out.trans (Ext.alloc _ (.cells #[.bool n2, .slice b2 l2 c2] 38))).trans ((HX3.out.trans (Ext.alloc _ (.cells #[.bool n3, .slice b3 l3 c3] 26))).trans ((HX4.out.trans (Ext.alloc _ (.cells #[.bool n4, .slice b4 l4 c4] 26))).trans ((HX5.out.trans (Ext.alloc _ (.cells #[.bool n5, .slice b5 l5 c5] 26))).trans (Ext.refl (w5.alloc (.cells #[.bool n5, .slice b5 l5 c5] 26))))))).block (heap_alloc_new _ _)
  have z1 := HY1.out.ext ((Ext.alloc _ (.cells #[.bool n1, .slice b1 l1 c1] 38)).trans ((HX2.out.trans (Ext.alloc _ (.cells #[.bool n2, .slice b2 l2 c2] 38))).trans ((HX3.out.trans (Ext.alloc _ (.cells #[.bool n3, .slice b3 l3 c3] 26))).trans ((HX4.out.trans (Ext.alloc _ (.cells #[.bool n4, .slice b4 l4 c4] 26))).trans ((HX5.out.trans (Ext.alloc _ (.cells #[.bool n5, .slice b5 l5 c5] 26))).trans (Ext.refl (w5.alloc (.cells #[.bool n5, .slice b5 l5 c5] 26))))))))
  have g2 : (w5.alloc (.cells #[.bool n5, .slice b5 l5 c5] 26)).heap[w2.heap.size]? = some (.cells #[.bool n2, .slice b2 l2 c2] 38) := ((HX3.out.trans (Ext.alloc _ (.cells #[.bool n3, .slice b3 l3 c3] 26))).trans ((HX4.out.trans (Ext.alloc _ (.cells #[.bool n4, .slice b4 l4 c4] 26))).trans ((HX5.out.trans (Ext.alloc _ (.cells #[.bool n5, .slice b5 l5 c5] 26))).trans (Ext.refl (w5.alloc (.cells #[.bool n5, .slice b5 l5 c5] 26)))))).block (heap_alloc_new _ _)
  have z2 := HY2.out.ext ((Ext.alloc _ (.cells #[.bool n2, .slice b2 l2 c2] 38)).trans ((HX3.out.trans (Ext.alloc _ (.cells #[.bool n3, .slice b3 l3 c3] 26))).trans ((HX4.out.trans (Ext.alloc _ (.cells #[.bool n4, .slice b4 l4 c4] 26))).trans ((HX5.out.trans (Ext.alloc _ (.cells #[.bool n5, .slice b5 l5 c5] 26))).trans (Ext.refl (w5.alloc (.cells #[.bool n5, .slice b5 l5 c5] 26)))))))
  have g3 : (w5.alloc (.cells #[.bool n5, .slice b5 l5 c5] 26)).heap[w3.heap.size]? = some (.cells #[.bool n3, .slice b3 l3 c3] 26) := ((HX4.out.trans (Ext.alloc _ (.cells #[.bool n4, .slice b4 l4 c4] 26))).trans ((HX5.out.trans (Ext.alloc _ (.cells #[.bool n5, .slice b5 l5 c5] 26))).trans (Ext.refl (w5.alloc (.cells #[.bool n5, .slice b5 l5 c5] 26))))).block (heap_alloc_new _ _)
  have z3 := HY3.out.ext ((Ext.alloc _ (.cells #[.bool n3, .slice b3 l3 c3] 26)).trans ((HX4.out.trans (Ext.alloc _ (.cells #[.bool n4, .slice b4 l4 c4] 26))).trans ((HX5.out.trans (Ext.alloc _ (.cells #[.bool n5, .slice b5 l5 c5] 26))).trans (Ext.refl (w5.alloc (.cells #[.bool n5, .slice b5 l5 c5] 26))))))
  have g4 : (w5.alloc (.cells #[.bool n5, .slice b5 l5 c5] 26)).heap[w4.heap.size]? = some (.cells #[.bool n4, .slice b4 l4 c4] 26) := ((HX5.out.trans (Ext.alloc _ (.cells #[.bool n5, .slice b5 l5 c5] 26))).trans (Ext.refl (w5.alloc (.cells #[.bool n5, .slice b5 l5 c5] 26)))).block (heap_alloc_new _ _)
  have z4 := HY4.out.ext ((Ext.alloc _ (.cells #[.bool n4, .slice b4 l4 c4] 26)).trans ((HX5.out.trans (Ext.alloc _ (.cells #[.bool n5, .slice b5 l5 c5] 26))).trans (Ext.refl (w5.alloc (.cells #[.bool n5, .slice b5 l5 c5] 26)))))
  have g5 : (w5.alloc (.cells #[.bool n5, .slice b5 l5 c5] 26)).heap[w5.heap.size]? = some (.cells #[.bool n5, .slice b5 l5 c5] 26) := (Ext.refl (w5.alloc (.cells #[.bool n5, .slice b5 l5 c5] 26))).block (heap_alloc_new _ _)
  have z5 := HY5.out.ext ((Ext.alloc _ (.cells #[.bool n5, .slice b5 l5 c5] 26)).trans (Ext.refl (w5.alloc (.cells #[.bool n5, .slice b5 l5 c5] 26))))
  have hW : Ext w (w5.alloc (.cells #[.bool n5, .slice b5 l5 c5] 26)) := HE5.out.trans (Ext.alloc _ _)
  generalize (w5.alloc (.cells #[.bool n5, .slice b5 l5 c5] 26)) = W at *
  have G1 := Lib.hid g1
  have HZ1 := Lib.hid z1
  have G2 := Lib.hid g2
  have HZ2 := Lib.hid z2
  have G3 := Lib.hid g3
  have HZ3 := Lib.hid z3
  have G4 := Lib.hid g4
  have HZ4 := Lib.hid z4
  have G5 := Lib.hid g5
  have HZ5 := Lib.hid z5
  have HW := Lib.hid hW
  clear hW g1 z1 g2 z2 g3 z3 g4 z4 g5 z5
  generalize w1.heap.size = p1 at *
  generalize w2.heap.size = p2 at *
  generalize w3.heap.size = p3 at *
  generalize w4.heap.size = p4 at *
  generalize w5.heap.size = p5 at *
  obtain ⟨q, hq⟩ : ∃ q, 4 * t.size = q := ⟨_, rfl⟩
  have hql : q ≤ 4000 := by omega
  rw [hq] at HZ5
  have HQ : Hid ((4 : Int) * (t.size : Int) = (q : Int)) := Lib.hid (by omega)
  clear hq

  refine wp_region_D preExt mixed [Is (.bool true), Is (.bool true), Is (.bool true), Is (.bool true), Is (.bool true), Is (.bool true), Is (.bool true), Is (.bool true), IsC (13194139533500) (x * 2 ^ q + y), IsC (13194139533500) (x), Is (.int .u64 4), Is (.string t), Is (.int .i64 (t.size : Nat)), Is (.int .u64 (t.size : Nat)), Is (.int .u64 (q : Nat)), IsC (13194139533600) (x * 2 ^ q), IsC (13194139533500) (y), IsC (13194139533601) (x * 2 ^ q + y), Is (.bool true), Is (.bool true)] (by kernel_rfl) ?mono rfl ?steps ?last
  case mono =>
    simp only [List.forall_mem_cons, List.not_mem_nil, false_implies, implies_true, and_true]
    refine ⟨?_, ?_, ?_, ?_, ?_, ?_, ?_, ?_, ?_, ?_, ?_, ?_, ?_, ?_, ?_, ?_, ?_, ?_, ?_, ?_⟩
    all_goals first | exact fun _ _ _ _ q => q | exact fun _ _ _ he q => q.ext he
  case steps =>
    refine ⟨?_, ?_, ?_, ?_, ?_, ?_, ?_, ?_, ?_, ?_, ?_, ?_, ?_, ?_, ?_, ?_, ?_, ?_, ?_, ?_, trivial⟩
    all_goals
      intro u0 u1 u2 u3 u4 u5 u6 u7 u8 u9 u10 u11 u12 u13 u14 u15 u16 u17 u18 u19 u20 w1 he hk
      simp [KnownD, Oper.looksAt, Op.operands, Call.operands, List.findIdx?_cons, Act.put] at hk
      simp only [Act.put, List.setIfInBounds_toArray, List.set_cons_succ, List.set_cons_zero]
    · go_wp2_with fail
      exact ⟨rfl, Ext.refl _, by show (_ : Value) = _; (first | rfl | simp); try rfl⟩
    · have k0 := hk
      obtain rfl : u0 = .bool true := k0
      go_wp2_with fail
      exact ⟨rfl, Ext.refl _, by show (_ : Value) = _; (first | rfl | simp); try rfl⟩
    · have k0 := hk
      obtain rfl : u1 = .bool true := k0
      go_wp2_with fail
      exact ⟨rfl, Ext.refl _, by show (_ : Value) = _; (first | rfl | simp); try rfl⟩
    · obtain ⟨k0, k1⟩ := hk
      obtain rfl : u1 = .bool true := k0
      obtain rfl : u2 = .bool true := k1
      go_wp2_with fail
      exact ⟨rfl, Ext.refl _, by show (_ : Value) = _; (first | rfl | simp); try rfl⟩
    · have k0 := hk
      obtain rfl : u3 = .bool true := k0
      go_wp2_with fail
      exact ⟨rfl, Ext.refl _, by show (_ : Value) = _; (first | rfl | simp); try rfl⟩
    · have k0 := hk
      obtain rfl : u4 = .bool true := k0
      go_wp2_with fail
      exact ⟨rfl, Ext.refl _, by show (_ : Value) = _; (first | rfl | simp); try rfl⟩
    · obtain ⟨k0, k1⟩ := hk
      obtain rfl : u4 = .bool true := k0
      obtain rfl : u5 = .bool true := k1
      go_wp2_with fail
      exact ⟨rfl, Ext.refl _, by show (_ : Value) = _; (first | rfl | simp); try rfl⟩
    · have k0 := hk
      obtain rfl : u6 = .bool true := k0
      go_wp2_with fail
      exact ⟨rfl, Ext.refl _, by show (_ : Value) = _; (first | rfl | simp); try rfl⟩
    · have k0 := hk
      obtain rfl : u7 = .bool true := k0
      have hb := he.block G5.out
      have q0 := blk_cell hb 0
      have q1 := blk_cell hb 1
      simp at q0 q1
      clear hb
      go_wp2_with fail
      exact ⟨rfl, Ext.refl _, HZ5.out.ext he⟩
    · have k0 := hk
      obtain rfl : u7 = .bool true := k0
      have hb := he.block G3.out
      have q0 := blk_cell hb 0
      have q1 := blk_cell hb 1
      simp at q0 q1
      clear hb
      go_wp2_with fail
      exact ⟨rfl, Ext.refl _, HZ3.out.ext he⟩
    · have k0 := hk
      obtain rfl : u7 = .bool true := k0
      go_wp2_with fail
      exact ⟨rfl, Ext.refl _, by show (_ : Value) = _; (first | rfl | simp); try rfl⟩
    · have k0 := hk
      obtain rfl : u7 = .bool true := k0
      go_wp2_with fail
      exact ⟨rfl, Ext.refl _, by show (_ : Value) = _; (first | rfl | simp); try rfl⟩
    · obtain ⟨k0, k1⟩ := hk
      obtain rfl : u11 = .string t := k0
      obtain rfl : u7 = .bool true := k1
      go_wp2_with fail
      exact ⟨rfl, Ext.refl _, by show (_ : Value) = _; (rfl); try rfl⟩
    · obtain ⟨k0, k1⟩ := hk
      obtain rfl : u12 = .int .i64 (t.size : Nat) := k0
      obtain rfl : u7 = .bool true := k1
      go_wp2_with fail
      exact ⟨rfl, Ext.refl _, by show (_ : Value) = _; (rfl); try rfl⟩
    · obtain ⟨k0, k1, k2⟩ := hk
      obtain rfl : u10 = .int .u64 4 := k0
      obtain rfl : u13 = .int .u64 (t.size : Nat) := k1
      obtain rfl : u7 = .bool true := k2
      go_wp2_with fail
      exact ⟨rfl, Ext.refl _, by show (_ : Value) = _; (rw [← HQ.out]); try rfl⟩
    · obtain ⟨k0, k1, k2⟩ := hk
      obtain rfl : u14 = .int .u64 (q : Nat) := k1
      obtain rfl : u7 = .bool true := k2
      have H0 := Lib.hid k0
      clear k0
      go_wp2_with fail
      refine (lsh_up q x _ _ H0.out.z hql).mono ?_
      rintro e w2 ⟨he2, x, rfl, hx⟩
      have HX := Lib.hid hx
      clear hx
      go_wp2_with fail
      exact ⟨rfl, he2, HX.out⟩
    · have k0 := hk
      obtain rfl : u7 = .bool true := k0
      have hb := he.block G4.out
      have q0 := blk_cell hb 0
      have q1 := blk_cell hb 1
      simp at q0 q1
      clear hb
      go_wp2_with fail
      exact ⟨rfl, Ext.refl _, HZ4.out.ext he⟩
    · obtain ⟨k0, k1, k2⟩ := hk
      obtain rfl : u7 = .bool true := k2
      have H0 : Hid (IsC (13194139533600) (x * 2 ^ q) u15 w1) := Lib.hid (by first | exact k0 | simpa using k0)
      have H1 := Lib.hid k1
      clear k0 k1
      go_wp2_with fail
      refine (add_z 13194139533600 (x * 2 ^ q) y _ _ _ H0.out.z (H1.out.z.mono (by omega)) (by omega)).mono ?_
      rintro e w2 ⟨he2, x, rfl, hx⟩
      have HX := Lib.hid hx
      clear hx
      go_wp2_with fail
      exact ⟨rfl, he2, HX.out⟩
    · obtain ⟨k0, k1, k2⟩ := hk
      obtain rfl : u7 = .bool true := k2
      have H0 : Hid (IsC (13194139533500) (x * 2 ^ q + y) u8 w1) := Lib.hid (by first | exact k0 | simpa using k0)
      have H1 : Hid (IsC (13194139533601) (x * 2 ^ q + y) u17 w1) := Lib.hid (by first | exact k1 | simpa using k1)
      clear k0 k1
      go_wp2_with fail
      refine (same_z (13194139533500) (13194139533601) (x * 2 ^ q + y) (x * 2 ^ q + y) _ _ _ (H0.out.z) (H1.out.z) (by omega) (by omega)).mono ?_
      rintro e w2 ⟨he2, x, rfl, hx⟩
      obtain rfl : x = .bool true := hx.trans (by simp)
      go_wp2_with fail
      exact ⟨rfl, he2, rfl⟩
    · obtain ⟨k0, k1⟩ := hk
      obtain rfl : u7 = .bool true := k0
      obtain rfl : u18 = .bool true := k1
      go_wp2_with fail
      exact ⟨rfl, Ext.refl _, by show (_ : Value) = _; (first | rfl | simp); try rfl⟩
  case last =>
    intro w1 he u0 h0 u1 h1 u2 h2 u3 h3 u4 h4 u5 h5 u6 h6 u7 h7 u8 h8 u9 h9 u10 h10 u11 h11 u12 h12 u13 h13 u14 h14 u15 h15 u16 h16 u17 h17 u18 h18 u19 h19
    obtain rfl : u19 = .bool true := h19
    clear h0 h1 h2 h3 h4 h5 h6 h7 h8 h9 h10 h11 h12 h13 h14 h15 h16 h17 h18
    simp only [LastD, Act.put, List.setIfInBounds_toArray, List.set_cons_succ, List.set_cons_zero]
    have HE := Lib.hid ((HW.out).trans he)
    clear he
    go_wp2_with fail
    go_ret
    exact ⟨HE.out, rfl⟩

set_option maxRecDepth 100000 in
set_option maxHeartbeats 4000000 in
theorem fnStringJoined_walk5 (s t : ByteArray) (a0 a1 a2 : Addr) (w : World) (hS : Sent a0 a1 a2 w) (hs : s.size ≤ 140737488351232) (ht : t.size ≤ 140737488351232) :
    Calls Tryf.prog 4 #[.string s, .string t, .int .u64 5] w (ValR (.bool true) w) := by
  have HS := Lib.hid hS
  clear hS
  go_enter Tryf.func4, Tryf.ntmps4
  by_cases h800 : t.size ≤ 800
  rotate_left 1
  · have em : decide (800 < t.size) = true := decide_eq_true (by omega)
    have em2 : decide ((800 : Int) < (t.size : Int)) = true := decide_eq_true (by omega)
    go_wp2_with fail
    go_ret
    exact ⟨Ext.refl _, rfl⟩
  have em : decide (800 < t.size) = false := decide_eq_false (by omega)
  have em2 : decide ((800 : Int) < (t.size : Int)) = false := decide_eq_false (by omega)
  go_wp2_with fail
  refine (signed_any s _ (by omega)).mono ?_
  rintro e w' ⟨rfl, rfl⟩
  by_cases hG : sgd (bts s 0) = true
  · rw [hG]
    clear hG
    go_wp2_with fail
    go_ret
    exact ⟨Ext.refl _, rfl⟩
  replace hG : sgd (bts s 0) = false := by simpa using hG
  rw [hG]
  have HUN := Lib.hid (sgd_false hG)
  clear hG
  go_wp2_with fail
  refine (signed_any t _ (by omega)).mono ?_
  rintro e w' ⟨rfl, rfl⟩
  by_cases hG : sgd (bts t 0) = true
  · rw [hG]
    clear hG
    go_wp2_with fail
    go_ret
    exact ⟨Ext.refl _, rfl⟩
  replace hG : sgd (bts t 0) = false := by simpa using hG
  rw [hG]
  have HUT := Lib.hid (sgd_false hG)
  clear hG
  obtain ⟨r1, hr1⟩ : ∃ r, numS (bts s 0) 32 = r := ⟨_, rfl⟩
  obtain ⟨r2, hr2⟩ : ∃ r, numS (bts t 0) 32 = r := ⟨_, rfl⟩
  have HN1 := Lib.hid hr1
  have HN2 := Lib.hid hr2
  clear hr1 hr2
  go_wp2_with fail
  refine (specSetString_s s 32 _ (by omega) (.inr (by omega)) (by omega)).mono ?_
  rintro e w1 ⟨he, y, rfl, n1, b1, l1, c1, rfl, hy⟩
  rw [HN1.out] at hy ⊢
  have HE1 := Lib.hid ((Ext.refl w).trans he)
  have HX1 := Lib.hid he
  have HY1 := Lib.hid hy
  clear he hy
  go_wp2_with fail
  refine (specSetString_s t 32 _ (by omega) (.inr (by omega)) (by omega)).mono ?_
  rintro e w2 ⟨he, y, rfl, n2, b2, l2, c2, rfl, hy⟩
  rw [HN2.out] at hy ⊢
  have HE2 := Lib.hid ((HE1.out.trans (Ext.alloc _ _)).trans he)
  have HX2 := Lib.hid he
  have HY2 := Lib.hid hy
  clear he hy
  obtain ⟨k1, hk1⟩ : ∃ k, r1.isSome = k := ⟨_, rfl⟩
  obtain ⟨k2, hk2⟩ : ∃ k, r2.isSome = k := ⟨_, rfl⟩
  rw [hk2]
  simp only [hk1]
  have HK1 := Lib.hid hk1
  have HK2 := Lib.hid hk2
  clear hk1 hk2
  cases k1
  · go_wp2_with fail
    go_ret
    exact ⟨HE2.out.trans (Ext.alloc _ _), rfl⟩
  cases k2
  · go_wp2_with fail
    go_ret
    exact ⟨HE2.out.trans (Ext.alloc _ _), rfl⟩
  obtain ⟨x, hx⟩ := Option.isSome_iff_exists.1 HK1.out
  obtain ⟨y, hy⟩ := Option.isSome_iff_exists.1 HK2.out
  rw [hx] at HN1
  rw [hy] at HN2
  clear hx hy HK1 HK2
  have HM : Hid (numS (bts (s ++ t) 0) 32 = some (x * 2 ^ (5 * t.size) + y)) := Lib.hid (by rw [bts_append]; exact numS_join HUN.out HUT.out (by decide) HN1.out HN2.out (bts_len t 0) rfl)
  have hst : (s ++ t).size ≤ 140737488357000 := by rw [size_append]; omega
  go_wp2_with fail
  refine (setString_s s 32 a0 a1 a2 _ (by omega) (HS.out.ext (HE2.out.trans (Ext.alloc _ _))) (.inr (by omega)) (by omega)).mono ?_
  rintro e w3 ⟨he, y, rfl, n3, b3, l3, c3, rfl, hy⟩
  rw [HN1.out] at hy ⊢
  simp only [Option.isSome, Option.getD] at hy ⊢
  have HE3 := Lib.hid ((HE2.out.trans (Ext.alloc _ _)).trans he)
  have HX3 := Lib.hid he
  have HY3 := Lib.hid hy
  clear he hy
  go_wp2_with fail
  refine (setString_s t 32 a0 a1 a2 _ (by omega) (HS.out.ext (HE3.out.trans (Ext.alloc _ _))) (.inr (by omega)) (by omega)).mono ?_
  rintro e w4 ⟨he, y, rfl, n4, b4, l4, c4, rfl, hy⟩
  rw [HN2.out] at hy ⊢
  simp only [Option.isSome, Option.getD] at hy ⊢
  have HE4 := Lib.hid ((HE3.out.trans (Ext.alloc _ _)).trans he)
  have HX4 := Lib.hid he
  have HY4 := Lib.hid hy
  clear he hy
  go_wp2_with fail
  refine (setString_s _ 32 a0 a1 a2 _ hst (HS.out.ext (HE4.out.trans (Ext.alloc _ _))) (.inr (by omega)) (by omega)).mono ?_
  rintro e w5 ⟨he, y, rfl, n5, b5, l5, c5, rfl, hy⟩
  rw [HM.out] at hy ⊢
  simp only [Option.isSome, Option.getD] at hy ⊢
  have HE5 := Lib.hid ((HE4.out.trans (Ext.alloc _ _)).trans he)
  have HX5 := Lib.hid he
  have HY5 := Lib.hid hy
  clear he hy
  go_wp2_with fail
  have g1 : (w5.alloc (.cells #[.bool n5, .slice b5 l5 c5] 26)).heap[w1.heap.size]? = some (.cells #[.bool n1, .slice b1 l1 c1] 38) := ((HX2.out.trans (Ext.alloc _ (.cells #[.bool n2, .slice b2 l2 c2] 38))).trans ((HX3.out.trans (Ext.alloc _ (.cells #[.bool n3, .slice b3 l3 c3] 26))).trans ((HX4.out.trans (Ext.alloc _ (.cells #[.bool n4, .slice b4 l4 c4] 26))).trans ((HX5.out.trans (Ext.alloc _ (.cells #[.bool n5, .slice b5 l5 c5] 26))).trans (Ext.refl (w5.alloc (.cells #[.bool n5, .slice b5 l5 c5] 26))))))).block (heap_alloc_new _ _)
  have z1 := HY1.out.ext ((Ext.alloc _ (.cells #[.bool n1, .slice b1 l1 c1] 38)).trans ((HX2.out.trans (Ext.alloc _ (.cells #[.bool n2, .slice b2 l2 c2] 38))).trans ((HX3.out.trans (Ext.alloc _ (.cells #[.bool n3, .slice b3 l3 c3] 26))).trans ((HX4.out.trans (Ext.alloc _ (.cells #[.bool n4, .slice b4 l4 c4] 26))).trans ((HX5.out.trans (Ext.alloc _ (.cells #[.bool n5, .slice b5 l5 c5] 26))).trans (Ext.refl (w5.alloc (.cells #[.bool n5, .slice b5 l5 c5] 26))))))))
  have g2 : (w5.alloc (.cells #[.bool n5, .slice b5 l5 c5] 26)).heap[w2.heap.size]? = some (.cells #[.bool n2, .slice b2 l2 c2] 38) := ((HX3.out.trans (Ext.alloc _ (.cells #[.bool n3, .slice b3 l3 c3] 26))).trans ((HX4.out.trans (Ext.alloc _ (.cells #[.bool n4, .slice b4 l4 c4] 26))).trans ((HX5.out.trans (Ext.alloc _ (.cells #[.bool n5, .slice b5 l5 c5] 26))).trans (Ext.refl (w5.alloc (.cells #[.bool n5, .slice b5 l5 c5] 26)))))).block (heap_alloc_new _ _)
  have z2 := HY2.out.ext ((Ext.alloc _ (.cells #[.bool n2, .slice b2 l2 c2] 38)).trans ((HX3.out.trans (Ext.alloc _ (.cells #[.bool n3, .slice b3 l3 c3] 26))).trans ((HX4.out.trans (Ext.alloc _ (.cells #[.bool n4, .slice b4 l4 c4] 26))).trans ((HX5.out.trans (Ext.alloc _ (.cells #[.bool n5, .slice b5 l5 c5] 26))).trans (Ext.refl (w5.alloc (.cells #[.bool n5, .slice b5 l5 c5] 26)))))))
  have g3 : (w5.alloc (.cells #[.bool n5, .slice b5 l5 c5] 26)).heap[w3.heap.size]? = some (.cells #[.bool n3, .slice b3 l3 c3] 26) := ((HX4.out.trans (Ext.alloc _ (.cells #[.bool n4, .slice b4 l4 c4] 26))).trans ((HX5.out.trans (Ext.alloc _ (.cells #[.bool n5, .slice b5 l5 c5] 26))).trans (Ext.refl (w5.alloc (.cells #[.bool n5, .slice b5 l5 c5] 26))))).block (heap_alloc_new _ _)
  have z3 := HY3.out.ext ((Ext.alloc _ (.cells #[.bool n3, .slice b3 l3 c3] 26)).trans ((HX4.out.trans (Ext.alloc _ (.cells #[.bool n4, .slice b4 l4 c4] 26))).trans ((HX5.out.trans (Ext.alloc _ (.cells #[.bool n5, .slice b5 l5 c5] 26))).trans (Ext.refl (w5.alloc (.cells #[.bool n5, .slice b5 l5 c5] 26))))))
  have g4 : (w5.alloc (.cells #[.bool n5, .slice b5 l5 c5] 26)).heap[w4.heap.size]? = some (.cells #[.bool n4, .slice b4 l4 c4] 26) := ((HX5.out.trans (Ext.alloc _ (.cells #[.bool n5, .slice b5 l5 c5] 26))).trans (Ext.refl (w5.alloc (.cells #[.bool n5, .slice b5 l5 c5] 26)))).block (heap_alloc_new _ _)
  have z4 := HY4.out.ext ((Ext.alloc _ (.cells #[.bool n4, .slice b4 l4 c4] 26)).trans ((HX5.out.trans (Ext.alloc _ (.cells #[.bool n5, .slice b5 l5 c5] 26))).trans (Ext.refl (w5.alloc (.cells #[.bool n5, .slice b5 l5 c5] 26)))))
  have g5 : (w5.alloc (.cells #[.bool n5, .slice b5 l5 c5] 26)).heap[w5.heap.size]? = some (.cells #[.bool n5, .slice b5 l5 c5] 26) := (Ext.refl (w5.alloc (.cells #[.bool n5, .slice b5 l5 c5] 26))).block (heap_alloc_new _ _)
  have z5 := HY5.out.ext ((Ext.alloc _ (.cells #[.bool n5, .slice b5 l5 c5] 26)).trans (Ext.refl (w5.alloc (.cells #[.bool n5, .slice b5 l5 c5] 26))))
  have hW : Ext w (w5.alloc (.cells #[.bool n5, .slice b5 l5 c5] 26)) := HE5.out.trans (Ext.alloc _ _)
  generalize (w5.alloc (.cells #[.bool n5, .slice b5 l5 c5] 26)) = W at *
  have G1 := Lib.hid g1
  have HZ1 := Lib.hid z1
  have G2 := Lib.hid g2
  have HZ2 := Lib.hid z2
  have G3 := Lib.hid g3
  have HZ3 := Lib.hid z3
  have G4 := Lib.hid g4
  have HZ4 := Lib.hid z4
  have G5 := Lib.hid g5
  have HZ5 := Lib.hid z5
  have HW := Lib.hid hW
  clear hW g1 z1 g2 z2 g3 z3 g4 z4 g5 z5
  generalize w1.heap.size = p1 at *
  generalize w2.heap.size = p2 at *
  generalize w3.heap.size = p3 at *
  generalize w4.heap.size = p4 at *
  generalize w5.heap.size = p5 at *
  obtain ⟨q, hq⟩ : ∃ q, 5 * t.size = q := ⟨_, rfl⟩
  have hql : q ≤ 4000 := by omega
  rw [hq] at HZ5
  have HQ : Hid ((5 : Int) * (t.size : Int) = (q : Int)) := Lib.hid (by omega)
  clear hq

  refine wp_region_D preExt mixed [Is (.bool true), Is (.bool true), Is (.bool true), Is (.bool true), Is (.bool true), Is (.bool true), Is (.bool true), Is (.bool true), IsC (13194139533500) (x * 2 ^ q + y), IsC (13194139533500) (x), Is (.int .u64 5), Is (.string t), Is (.int .i64 (t.size : Nat)), Is (.int .u64 (t.size : Nat)), Is (.int .u64 (q : Nat)), IsC (13194139533600) (x * 2 ^ q), IsC (13194139533500) (y), IsC (13194139533601) (x * 2 ^ q + y), Is (.bool true), Is (.bool true)] (by kernel_rfl) ?mono rfl ?steps ?last
  case mono =>
    simp only [List.forall_mem_cons, List.not_mem_nil, false_implies, implies_true, and_true]
    refine ⟨?_, ?_, ?_, ?_, ?_, ?_, ?_, ?_, ?_, ?_, ?_, ?_, ?_, ?_, ?_, ?_, ?_, ?_, ?_, ?_⟩
    all_goals first | exact fun _ _ _ _ q => q | exact fun _ _ _ he q => q.ext he
  case steps =>
    refine ⟨?_, ?_, ?_, ?_, ?_, ?_, ?_, ?_, ?_, ?_, ?_, ?_, ?_, ?_, ?_, ?_, ?_, ?_, ?_, ?_, trivial⟩
    all_goals
      intro u0 u1 u2 u3 u4 u5 u6 u7 u8 u9 u10 u11 u12 u13 u14 u15 u16 u17 u18 u19 u20 w1 he hk
      simp [KnownD, Oper.looksAt, Op.operands, Call.operands, List.findIdx?_cons, Act.put] at hk
      simp only [Act.put, List.setIfInBounds_toArray, List.set_cons_succ, List.set_cons_zero]
    · go_wp2_with fail
      exact ⟨rfl, Ext.refl _, by show (_ : Value) = _; (first | rfl | simp); try rfl⟩
    · have k0 := hk
      obtain rfl : u0 = .bool true := k0
      go_wp2_with fail
      exact ⟨rfl, Ext.refl _, by show (_ : Value) = _; (first | rfl | simp); try rfl⟩
    · have k0 := hk
      obtain rfl : u1 = .bool true := k0
      go_wp2_with fail
      exact ⟨rfl, Ext.refl _, by show (_ : Value) = _; (first | rfl | simp); try rfl⟩
    · obtain ⟨k0, k1⟩ := hk
      obtain rfl : u1 = .bool true := k0
      obtain rfl : u2 = .bool true := k1
      go_wp2_with fail
      exact ⟨rfl, Ext.refl _, by show (_ : Value) = _; (first | rfl | simp); try rfl⟩
    · have k0 := hk
      obtain rfl : u3 = .bool true := k0
      go_wp2_with fail
      exact ⟨rfl, Ext.refl _, by show (_ : Value) = _; (first | rfl | simp); try rfl⟩
    · have k0 := hk
      obtain rfl : u4 = .bool true := k0
      go_wp2_with fail
      exact ⟨rfl, Ext.refl _, by show (_ : Value) = _; (first | rfl | simp); try rfl⟩
    · obtain ⟨k0, k1⟩ := hk
      obtain rfl : u4 = .bool true := k0
      obtain rfl : u5 = .bool true := k1
      go_wp2_with fail
      exact ⟨rfl, Ext.refl _, by show (_ : Value) = _; (first | rfl | simp); try rfl⟩
    · have k0 := hk
      obtain rfl : u6 = .bool true := k0
      go_wp2_with fail
      exact ⟨rfl, Ext.refl _, by show (_ : Value) = _; (first | rfl | simp); try rfl⟩
    · have k0 := hk
      obtain rfl : u7 = .bool true := k0
      have hb := he.block G5.out
      have q0 := blk_cell hb 0
      have q1 := blk_cell hb 1
      simp at q0 q1
      clear hb
      go_wp2_with fail
      exact ⟨rfl, Ext.refl _, HZ5.out.ext he⟩
    · have k0 := hk
      obtain rfl : u7 = .bool true := k0
      have hb := he.block G3.out
      have q0 := blk_cell hb 0
      have q1 := blk_cell hb 1
      simp at q0 q1
      clear hb
      go_wp2_with fail
      exact ⟨rfl, Ext.refl _, HZ3.out.ext he⟩
    · have k0 := hk
      obtain rfl : u7 = .bool true := k0
      go_wp2_with fail
      exact ⟨rfl, Ext.refl _, by show (_ : Value) = _; (first | rfl | simp); try rfl⟩
    · have k0 := hk
      obtain rfl : u7 = .bool true := k0
      go_wp2_with fail
      exact ⟨rfl, Ext.refl _, by show (_ : Value) = _; (first | rfl | simp); try rfl⟩
    · obtain ⟨k0, k1⟩ := hk
      obtain rfl : u11 = .string t := k0
      obtain rfl : u7 = .bool true := k1
      go_wp2_with fail
      exact ⟨rfl, Ext.refl _, by show (_ : Value) = _; (rfl); try rfl⟩
    · obtain ⟨k0, k1⟩ := hk
      obtain rfl : u12 = .int .i64 (t.size : Nat) := k0
      obtain rfl : u7 = .bool true := k1
      go_wp2_with fail
      exact ⟨rfl, Ext.refl _, by show (_ : Value) = _; (rfl); try rfl⟩
    · obtain ⟨k0, k1, k2⟩ := hk
      obtain rfl : u10 = .int .u64 5 := k0
      obtain rfl : u13 = .int .u64 (t.size : Nat) := k1
      obtain rfl : u7 = .bool true := k2
      go_wp2_with fail
      exact ⟨rfl, Ext.refl _, by show (_ : Value) = _; (rw [← HQ.out]); try rfl⟩
    · obtain ⟨k0, k1, k2⟩ := hk
      obtain rfl : u14 = .int .u64 (q : Nat) := k1
      obtain rfl : u7 = .bool true := k2
      have H0 := Lib.hid k0
      clear k0
      go_wp2_with fail
      refine (lsh_up q x _ _ H0.out.z hql).mono ?_
      rintro e w2 ⟨he2, x, rfl, hx⟩
      have HX := Lib.hid hx
      clear hx
      go_wp2_with fail
      exact ⟨rfl, he2, HX.out⟩
    · have k0 := hk
      obtain rfl : u7 = .bool true := k0
      have hb := he.block G4.out
      have q0 := blk_cell hb 0
      have q1 := blk_cell hb 1
      simp at q0 q1
      clear hb
      go_wp2_with fail
      exact ⟨rfl, Ext.refl _, HZ4.out.ext he⟩
    · obtain ⟨k0, k1, k2⟩ := hk
      obtain rfl : u7 = .bool true := k2
      have H0 : Hid (IsC (13194139533600) (x * 2 ^ q) u15 w1) := Lib.hid (by first | exact k0 | simpa using k0)
      have H1 := Lib.hid k1
      clear k0 k1
      go_wp2_with fail
      refine (add_z 13194139533600 (x * 2 ^ q) y _ _ _ H0.out.z (H1.out.z.mono (by omega)) (by omega)).mono ?_
      rintro e w2 ⟨he2, x, rfl, hx⟩
      have HX := Lib.hid hx
      clear hx
      go_wp2_with fail
      exact ⟨rfl, he2, HX.out⟩
    · obtain ⟨k0, k1, k2⟩ := hk
      obtain rfl : u7 = .bool true := k2
      have H0 : Hid (IsC (13194139533500) (x * 2 ^ q + y) u8 w1) := Lib.hid (by first | exact k0 | simpa using k0)
      have H1 : Hid (IsC (13194139533601) (x * 2 ^ q + y) u17 w1) := Lib.hid (by first | exact k1 | simpa using k1)
      clear k0 k1
      go_wp2_with fail
      refine (same_z (13194139533500) (13194139533601) (x * 2 ^ q + y) (x * 2 ^ q + y) _ _ _ (H0.out.z) (H1.out.z) (by omega) (by omega)).mono ?_
      rintro e w2 ⟨he2, x, rfl, hx⟩
      obtain rfl : x = .bool true := hx.trans (by simp)
      go_wp2_with fail
      exact ⟨rfl, he2, rfl⟩
    · obtain ⟨k0, k1⟩ := hk
      obtain rfl : u7 = .bool true := k0
      obtain rfl : u18 = .bool true := k1
      go_wp2_with fail
      exact ⟨rfl, Ext.refl _, by show (_ : Value) = _; (first | rfl | simp); try rfl⟩
  case last =>
    intro w1 he u0 h0 u1 h1 u2 h2 u3 h3 u4 h4 u5 h5 u6 h6 u7 h7 u8 h8 u9 h9 u10 h10 u11 h11 u12 h12 u13 h13 u14 h14 u15 h15 u16 h16 u17 h17 u18 h18 u19 h19
    obtain rfl : u19 = .bool true := h19
    clear h0 h1 h2 h3 h4 h5 h6 h7 h8 h9 h10 h11 h12 h13 h14 h15 h16 h17 h18
    simp only [LastD, Act.put, List.setIfInBounds_toArray, List.set_cons_succ, List.set_cons_zero]
    have HE := Lib.hid ((HW.out).trans he)
    clear he
    go_wp2_with fail
    go_ret
    exact ⟨HE.out, rfl⟩

theorem fnStringJoined_walk (s t : ByteArray) (k : Int) (a0 a1 a2 : Addr) (w : World) (hS : Sent a0 a1 a2 w) (hs : s.size ≤ 140737488351232) (ht : t.size ≤ 140737488351232) (hk : (Lit.int .u64 k).wf = true) :
    Calls Tryf.prog 4 #[.string s, .string t, .int .u64 k] w (ValR (.bool true) w) := by
  obtain ⟨hk0, hk1⟩ := wf_u64 hk
  by_cases h1 : k < 1
  · have e1 : decide (k < 1) = true := decide_eq_true h1
    clear hS
    go_enter Tryf.func4, Tryf.ntmps4
    go_wp2_with fail
    go_ret
    exact ⟨Ext.refl _, rfl⟩
  by_cases h5 : 5 < k
  · have e1 : decide (k < 1) = false := decide_eq_false h1
    have e5 : decide (5 < k) = true := decide_eq_true h5
    clear hS
    go_enter Tryf.func4, Tryf.ntmps4
    go_wp2_with fail
    go_ret
    exact ⟨Ext.refl _, rfl⟩
  rcases (by omega : k = 1 ∨ k = 2 ∨ k = 3 ∨ k = 4 ∨ k = 5) with rfl | rfl | rfl | rfl | rfl
  · exact fnStringJoined_walk1 s t a0 a1 a2 w hS hs ht
  · exact fnStringJoined_walk2 s t a0 a1 a2 w hS hs ht
  · exact fnStringJoined_walk3 s t a0 a1 a2 w hS hs ht
  · exact fnStringJoined_walk4 s t a0 a1 a2 w hS hs ht
  · exact fnStringJoined_walk5 s t a0 a1 a2 w hS hs ht

end Go.Proofs.YtocadbghhoibnaaFmt

