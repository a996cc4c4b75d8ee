/- FnAddCommutes and the laws of sums (printed by lawgen.py). -/
import Derived.Test.YtacmojhladdalaaAddZ
import Derived.Test.YtacmojhladdalaaCmp3
import Derived.Test.YtacmojhladdalaaOf
import Derived.Test.YtacmojhladdalaaLaw5
set_option linter.unusedSimpArgs false
set_option linter.unusedVariables false
namespace Go.Proofs.Ytacmojhladdalaa
open Go.RowKit

theorem cmpZ_sub (a b : Int) : sgnZ (a - b) = cmpZ a b := by
  rcases Int.lt_trichotomy a b with h | h | h
  · rw [cmpZ_lt h, sgnZ, if_pos (by omega)]
  · rw [cmpZ_eq h, sgnZ, if_neg (by omega), if_pos (by omega)]
  · rw [cmpZ_gt h, sgnZ, if_neg (by omega), if_neg (by omega)]

theorem cmpZ_add (a b c : Int) : cmpZ (a + c) (b + c) = cmpZ a b := by
  rcases Int.lt_trichotomy a b with h | h | h
  · rw [cmpZ_lt h, cmpZ_lt (by omega)]
  · rw [cmpZ_eq h, cmpZ_eq (by omega)]
  · rw [cmpZ_gt h, cmpZ_gt (by omega)]

theorem cmpZ_negs (a b : Int) : cmpZ (-a) (-b) = cmpZ b a := by
  rcases Int.lt_trichotomy a b with h | h | h
  · rw [cmpZ_gt h, cmpZ_gt (by omega)]
  · rw [cmpZ_eq h.symm, cmpZ_eq (by omega)]
  · rw [cmpZ_lt h, cmpZ_lt (by omega)]

set_option maxHeartbeats 1000000 in
theorem fnAddCommutes_walk (n0 : Bool) (v0 : Value) (ws0 : List Nat) (n1 : Bool) (v1 : Value) (ws1 : List Nat) (w : World) (hr0 : Rd .u64 w v0 ws0) (hl0 : ws0.length ≤ 17592186043904) (hr1 : Rd .u64 w v1 ws1) (hl1 : ws1.length ≤ 17592186043904)  :
    Calls Try.prog 7 #[.agg #[.bool n0, v0], .agg #[.bool n1, v1]] w (ValR (.bool true) w) := by
  obtain ⟨a0, c0, rfl⟩ := hr0.form
  have hz0 : IsZ 17592186043904 (ival n0 ws0) (.agg #[.bool n0, .slice a0 ws0.length c0]) w := ⟨n0, _, ws0, rfl, hr0, hl0, rfl⟩
  generalize hg0 : ival n0 ws0 = a at hz0
  have HZ0 := Lib.hid hz0
  have HG0 := Lib.hid hg0
  clear hz0 hg0 hr0
  obtain ⟨a1, c1, rfl⟩ := hr1.form
  have hz1 : IsZ 17592186043904 (ival n1 ws1) (.agg #[.bool n1, .slice a1 ws1.length c1]) w := ⟨n1, _, ws1, rfl, hr1, hl1, rfl⟩
  generalize hg1 : ival n1 ws1 = b at hz1
  have HZ1 := Lib.hid hz1
  have HG1 := Lib.hid hg1
  clear hz1 hg1 hr1
  go_enter Try.func7, Try.ntmps7
  go_wp2_with fail
  refine wp_region_D preExt mixed [IsZ (17592186043904) (a), IsZ (17592186043904) (b), IsC (17592186043905) ((a) + (b)), IsZ (17592186043904) (b), IsZ (17592186043904) (a), IsC (17592186043905) ((b) + (a)), Is (.bool true), Is (.bool true), IsZ (17592186043904) (a), IsZ (17592186043904) (b), IsC (17592186043905) ((a) + (b)), IsZ (17592186043904) (a), IsC (17592186043906) (((a) + (b)) - (a)), IsZ (17592186043904) (b), Is (.bool true), Is (.bool true)] (by kernel_rfl) ?mono rfl ?steps ?last
  case mono =>
    simp only [List.forall_mem_cons, List.not_mem_nil, false_implies, implies_true, and_true]
    refine ⟨?_, ?_, ?_, ?_, ?_, ?_, ?_, ?_, ?_, ?_, ?_, ?_, ?_, ?_, ?_, ?_⟩
    all_goals first | exact fun _ _ _ _ q => q | exact fun _ _ _ he q => q.ext he
  case steps =>
    refine ⟨?_, ?_, ?_, ?_, ?_, ?_, ?_, ?_, ?_, ?_, ?_, ?_, ?_, ?_, ?_, ?_, trivial⟩
    all_goals
      intro u0 u1 u2 u3 u4 u5 u6 u7 u8 u9 u10 u11 u12 u13 u14 u15 u16 w1 he hk
      simp [KnownD, Oper.looksAt, Op.operands, Call.operands, List.findIdx?_cons, Act.put] at hk
      simp only [Act.put, List.setIfInBounds_toArray, List.set_cons_succ, List.set_cons_zero]
    · have hb := he.block ((Ext.alloc _ _).block (heap_alloc_new _ _))
      have hc0 := blk_cell hb 0
      have hc1 := blk_cell hb 1
      simp at hc0 hc1
      clear hb
      go_wp2_with fail
      exact ⟨rfl, Ext.refl _, HZ0.out.ext (((Ext.alloc _ _).trans (Ext.alloc _ _)).trans he)⟩
    · have hb := he.block (heap_second _ _ _)
      have hc0 := blk_cell hb 0
      have hc1 := blk_cell hb 1
      simp at hc0 hc1
      clear hb
      go_wp2_with fail
      exact ⟨rfl, Ext.refl _, HZ1.out.ext (((Ext.alloc _ _).trans (Ext.alloc _ _)).trans he)⟩
    · obtain ⟨k0, k1⟩ := hk
      have H0 := Lib.hid k0
      have H1 := Lib.hid k1
      clear k0 k1
      go_wp2_with fail
      refine (add_z (17592186043904) (a) (b) _ _ _ ((H0.out).mono (by omega)) ((H1.out).mono (by omega)) (by omega)).mono ?_
      rintro e w2 ⟨he2, x, rfl, hx⟩
      have HX := Lib.hid hx
      clear hx
      go_wp2_with fail
      exact ⟨rfl, he2, HX.out⟩
    · have hb := he.block (heap_second _ _ _)
      have hc0 := blk_cell hb 0
      have hc1 := blk_cell hb 1
      simp at hc0 hc1
      clear hb
      go_wp2_with fail
      exact ⟨rfl, Ext.refl _, HZ1.out.ext (((Ext.alloc _ _).trans (Ext.alloc _ _)).trans he)⟩
    · have hb := he.block ((Ext.alloc _ _).block (heap_alloc_new _ _))
      have hc0 := blk_cell hb 0
      have hc1 := blk_cell hb 1
      simp at hc0 hc1
      clear hb
      go_wp2_with fail
      exact ⟨rfl, Ext.refl _, HZ0.out.ext (((Ext.alloc _ _).trans (Ext.alloc _ _)).trans he)⟩
    · obtain ⟨k0, k1⟩ := hk
      have H0 := Lib.hid k0
      have H1 := Lib.hid k1
      clear k0 k1
      go_wp2_with fail
      refine (add_z (17592186043904) (b) (a) _ _ _ ((H0.out).mono (by omega)) ((H1.out).mono (by omega)) (by omega)).mono ?_
      rintro e w2 ⟨he2, x, rfl, hx⟩
      have HX := Lib.hid hx
      clear hx
      go_wp2_with fail
      exact ⟨rfl, he2, HX.out⟩
    · obtain ⟨k0, k1⟩ := hk
      have H0 : Hid (IsC (17592186043905) ((a) + (b)) u2 w1) := Lib.hid (by first | exact k0 | simpa using k0)
      have H1 : Hid (IsC (17592186043905) ((b) + (a)) u5 w1) := Lib.hid (by first | exact k1 | simpa using k1)
      clear k0 k1
      go_wp2_with fail
      refine (same_z (17592186043905) (17592186043905) ((a) + (b)) ((b) + (a)) _ _ _ (H0.out.z) (H1.out.z) (by omega) (by omega)).mono ?_
      rintro e w2 ⟨he2, x, rfl, hx⟩
      obtain rfl : x = .bool true := hx.trans (by congr 1; exact decide_eq_true (by omega))
      go_wp2_with fail
      exact ⟨rfl, he2, rfl⟩
    · have k0 := hk
      obtain rfl : u6 = .bool true := k0
      go_wp2_with fail
      exact ⟨rfl, Ext.refl _, by show (_ : Value) = _; (first | rfl | simp); try rfl⟩
    · have k0 := hk
      obtain rfl : u7 = .bool true := k0
      have hb := he.block ((Ext.alloc _ _).block (heap_alloc_new _ _))
      have hc0 := blk_cell hb 0
      have hc1 := blk_cell hb 1
      simp at hc0 hc1
      clear hb
      go_wp2_with fail
      exact ⟨rfl, Ext.refl _, HZ0.out.ext (((Ext.alloc _ _).trans (Ext.alloc _ _)).trans he)⟩
    · have k0 := hk
      obtain rfl : u7 = .bool true := k0
      have hb := he.block (heap_second _ _ _)
      have hc0 := blk_cell hb 0
      have hc1 := blk_cell hb 1
      simp at hc0 hc1
      clear hb
      go_wp2_with fail
      exact ⟨rfl, Ext.refl _, HZ1.out.ext (((Ext.alloc _ _).trans (Ext.alloc _ _)).trans he)⟩
    · obtain ⟨k0, k1, k2⟩ := hk
      obtain rfl : u7 = .bool true := k2
      have H0 := Lib.hid k0
      have H1 := Lib.hid k1
      clear k0 k1
      go_wp2_with fail
      refine (add_z (17592186043904) (a) (b) _ _ _ ((H0.out).mono (by omega)) ((H1.out).mono (by omega)) (by omega)).mono ?_
      rintro e w2 ⟨he2, x, rfl, hx⟩
      have HX := Lib.hid hx
      clear hx
      go_wp2_with fail
      exact ⟨rfl, he2, HX.out⟩
    · have k0 := hk
      obtain rfl : u7 = .bool true := k0
      have hb := he.block ((Ext.alloc _ _).block (heap_alloc_new _ _))
      have hc0 := blk_cell hb 0
      have hc1 := blk_cell hb 1
      simp at hc0 hc1
      clear hb
      go_wp2_with fail
      exact ⟨rfl, Ext.refl _, HZ0.out.ext (((Ext.alloc _ _).trans (Ext.alloc _ _)).trans he)⟩
    · obtain ⟨k0, k1, k2⟩ := hk
      obtain rfl : u7 = .bool true := k2
      have H0 : Hid (IsC (17592186043905) ((a) + (b)) u10 w1) := Lib.hid (by first | exact k0 | simpa using k0)
      have H1 := Lib.hid k1
      clear k0 k1
      go_wp2_with fail
      refine (sub_z (17592186043905) ((a) + (b)) (a) _ _ _ ((H0.out.z).mono (by omega)) ((H1.out).mono (by omega)) (by omega)).mono ?_
      rintro e w2 ⟨he2, x, rfl, hx⟩
      have HX := Lib.hid hx
      clear hx
      go_wp2_with fail
      exact ⟨rfl, he2, HX.out⟩
    · have k0 := hk
      obtain rfl : u7 = .bool true := k0
      have hb := he.block (heap_second _ _ _)
      have hc0 := blk_cell hb 0
      have hc1 := blk_cell hb 1
      simp at hc0 hc1
      clear hb
      go_wp2_with fail
      exact ⟨rfl, Ext.refl _, HZ1.out.ext (((Ext.alloc _ _).trans (Ext.alloc _ _)).trans he)⟩
    · obtain ⟨k0, k1, k2⟩ := hk
      obtain rfl : u7 = .bool true := k2
      have H0 : Hid (IsC (17592186043906) (((a) + (b)) - (a)) u12 w1) := Lib.hid (by first | exact k0 | simpa using k0)
      have H1 := Lib.hid k1
      clear k0 k1
      go_wp2_with fail
      refine (same_z (17592186043906) (17592186043904) (((a) + (b)) - (a)) (b) _ _ _ (H0.out.z) (H1.out) (by omega) (by omega)).mono ?_
      rintro e w2 ⟨he2, x, rfl, hx⟩
      obtain rfl : x = .bool true := hx.trans (by congr 1; exact decide_eq_true (by omega))
      go_wp2_with fail
      exact ⟨rfl, he2, rfl⟩
    · obtain ⟨k0, k1⟩ := hk
      obtain rfl : u7 = .bool true := k0
      obtain rfl : u14 = .bool true := k1
      go_wp2_with fail
      exact ⟨rfl, Ext.refl _, by show (_ : Value) = _; (first | rfl | simp); try rfl⟩
  case last =>
    intro w1 he u0 h0 u1 h1 u2 h2 u3 h3 u4 h4 u5 h5 u6 h6 u7 h7 u8 h8 u9 h9 u10 h10 u11 h11 u12 h12 u13 h13 u14 h14 u15 h15
    obtain rfl : u15 = .bool true := h15
    clear h0 h1 h2 h3 h4 h5 h6 h7 h8 h9 h10 h11 h12 h13 h14
    simp only [LastD, Act.put, List.setIfInBounds_toArray, List.set_cons_succ, List.set_cons_zero]
    have HE := Lib.hid (((Ext.alloc _ _).trans (Ext.alloc _ _)).trans he)
    clear he
    go_wp2_with fail
    go_ret
    exact ⟨HE.out, rfl⟩

set_option maxHeartbeats 1000000 in
theorem fnAddAssociates_walk (n0 : Bool) (v0 : Value) (ws0 : List Nat) (n1 : Bool) (v1 : Value) (ws1 : List Nat) (n2 : Bool) (v2 : Value) (ws2 : List Nat) (w : World) (hr0 : Rd .u64 w v0 ws0) (hl0 : ws0.length ≤ 17592186043904) (hr1 : Rd .u64 w v1 ws1) (hl1 : ws1.length ≤ 17592186043904) (hr2 : Rd .u64 w v2 ws2) (hl2 : ws2.length ≤ 17592186043904)  :
    Calls Try.prog 6 #[.agg #[.bool n0, v0], .agg #[.bool n1, v1], .agg #[.bool n2, v2]] w (ValR (.bool true) w) := by
  obtain ⟨a0, c0, rfl⟩ := hr0.form
  have hz0 : IsZ 17592186043904 (ival n0 ws0) (.agg #[.bool n0, .slice a0 ws0.length c0]) w := ⟨n0, _, ws0, rfl, hr0, hl0, rfl⟩
  generalize hg0 : ival n0 ws0 = a at hz0
  have HZ0 := Lib.hid hz0
  have HG0 := Lib.hid hg0
  clear hz0 hg0 hr0
  obtain ⟨a1, c1, rfl⟩ := hr1.form
  have hz1 : IsZ 17592186043904 (ival n1 ws1) (.agg #[.bool n1, .slice a1 ws1.length c1]) w := ⟨n1, _, ws1, rfl, hr1, hl1, rfl⟩
  generalize hg1 : ival n1 ws1 = b at hz1
  have HZ1 := Lib.hid hz1
  have HG1 := Lib.hid hg1
  clear hz1 hg1 hr1
  obtain ⟨a2, c2, rfl⟩ := hr2.form
  have hz2 : IsZ 17592186043904 (ival n2 ws2) (.agg #[.bool n2, .slice a2 ws2.length c2]) w := ⟨n2, _, ws2, rfl, hr2, hl2, rfl⟩
  generalize hg2 : ival n2 ws2 = c at hz2
  have HZ2 := Lib.hid hz2
  have HG2 := Lib.hid hg2
  clear hz2 hg2 hr2
  go_enter Try.func6, Try.ntmps6
  go_wp2_with fail
  refine wp_region_D preExt mixed [IsZ (17592186043904) (a), IsZ (17592186043904) (b), IsC (17592186043905) ((a) + (b)), IsZ (17592186043904) (c), IsC (17592186043906) (((a) + (b)) + (c)), IsZ (17592186043904) (a), IsZ (17592186043904) (b), IsZ (17592186043904) (c), IsC (17592186043905) ((b) + (c)), IsC (17592186043906) ((a) + ((b) + (c))), Is (.bool true), Is (.bool true), IsZ (17592186043904) (a), IsZ (17592186043904) (b), IsC (17592186043905) ((a) + (b)), IsZ (17592186043904) (c), IsC (17592186043906) (((a) + (b)) + (c)), IsZ (17592186043904) (a), IsZ (17592186043904) (b), IsC (17592186043905) ((a) + (b)), IsC (17592186043907) ((((a) + (b)) + (c)) - ((a) + (b))), IsZ (17592186043904) (c), Is (.bool true), Is (.bool true)] (by kernel_rfl) ?mono rfl ?steps ?last
  case mono =>
    simp only [List.forall_mem_cons, List.not_mem_nil, false_implies, implies_true, and_true]
    refine ⟨?_, ?_, ?_, ?_, ?_, ?_, ?_, ?_, ?_, ?_, ?_, ?_, ?_, ?_, ?_, ?_, ?_, ?_, ?_, ?_, ?_, ?_, ?_, ?_⟩
    all_goals first | exact fun _ _ _ _ q => q | exact fun _ _ _ he q => q.ext he
  case steps =>
    refine ⟨?_, ?_, ?_, ?_, ?_, ?_, ?_, ?_, ?_, ?_, ?_, ?_, ?_, ?_, ?_, ?_, ?_, ?_, ?_, ?_, ?_, ?_, ?_, ?_, trivial⟩
    all_goals
      intro u0 u1 u2 u3 u4 u5 u6 u7 u8 u9 u10 u11 u12 u13 u14 u15 u16 u17 u18 u19 u20 u21 u22 u23 u24 w1 he hk
      simp [KnownD, Oper.looksAt, Op.operands, Call.operands, List.findIdx?_cons, Act.put] at hk
      simp only [Act.put, List.setIfInBounds_toArray, List.set_cons_succ, List.set_cons_zero]
    · have hb := he.block ((Ext.alloc _ _).block ((Ext.alloc _ _).block (heap_alloc_new _ _)))
      have hc0 := blk_cell hb 0
      have hc1 := blk_cell hb 1
      simp at hc0 hc1
      clear hb
      go_wp2_with fail
      exact ⟨rfl, Ext.refl _, HZ0.out.ext ((((Ext.alloc _ _).trans (Ext.alloc _ _)).trans (Ext.alloc _ _)).trans he)⟩
    · have hb := he.block ((Ext.alloc _ _).block (heap_second _ _ _))
      have hc0 := blk_cell hb 0
      have hc1 := blk_cell hb 1
      simp at hc0 hc1
      clear hb
      go_wp2_with fail
      exact ⟨rfl, Ext.refl _, HZ1.out.ext ((((Ext.alloc _ _).trans (Ext.alloc _ _)).trans (Ext.alloc _ _)).trans he)⟩
    · obtain ⟨k0, k1⟩ := hk
      have H0 := Lib.hid k0
      have H1 := Lib.hid k1
      clear k0 k1
      go_wp2_with fail
      refine (add_z (17592186043904) (a) (b) _ _ _ ((H0.out).mono (by omega)) ((H1.out).mono (by omega)) (by omega)).mono ?_
      rintro e w2 ⟨he2, x, rfl, hx⟩
      have HX := Lib.hid hx
      clear hx
      go_wp2_with fail
      exact ⟨rfl, he2, HX.out⟩
    · have hb := he.block (heap_third' _ _ _ _)
      have hc0 := blk_cell hb 0
      have hc1 := blk_cell hb 1
      simp at hc0 hc1
      clear hb
      go_wp2_with fail
      exact ⟨rfl, Ext.refl _, HZ2.out.ext ((((Ext.alloc _ _).trans (Ext.alloc _ _)).trans (Ext.alloc _ _)).trans he)⟩
    · obtain ⟨k0, k1⟩ := hk
      have H0 : Hid (IsC (17592186043905) ((a) + (b)) u2 w1) := Lib.hid (by first | exact k0 | simpa using k0)
      have H1 := Lib.hid k1
      clear k0 k1
      go_wp2_with fail
      refine (add_z (17592186043905) ((a) + (b)) (c) _ _ _ ((H0.out.z).mono (by omega)) ((H1.out).mono (by omega)) (by omega)).mono ?_
      rintro e w2 ⟨he2, x, rfl, hx⟩
      have HX := Lib.hid hx
      clear hx
      go_wp2_with fail
      exact ⟨rfl, he2, HX.out⟩
    · have hb := he.block ((Ext.alloc _ _).block ((Ext.alloc _ _).block (heap_alloc_new _ _)))
      have hc0 := blk_cell hb 0
      have hc1 := blk_cell hb 1
      simp at hc0 hc1
      clear hb
      go_wp2_with fail
      exact ⟨rfl, Ext.refl _, HZ0.out.ext ((((Ext.alloc _ _).trans (Ext.alloc _ _)).trans (Ext.alloc _ _)).trans he)⟩
    · have hb := he.block ((Ext.alloc _ _).block (heap_second _ _ _))
      have hc0 := blk_cell hb 0
      have hc1 := blk_cell hb 1
      simp at hc0 hc1
      clear hb
      go_wp2_with fail
      exact ⟨rfl, Ext.refl _, HZ1.out.ext ((((Ext.alloc _ _).trans (Ext.alloc _ _)).trans (Ext.alloc _ _)).trans he)⟩
    · have hb := he.block (heap_third' _ _ _ _)
      have hc0 := blk_cell hb 0
      have hc1 := blk_cell hb 1
      simp at hc0 hc1
      clear hb
      go_wp2_with fail
      exact ⟨rfl, Ext.refl _, HZ2.out.ext ((((Ext.alloc _ _).trans (Ext.alloc _ _)).trans (Ext.alloc _ _)).trans he)⟩
    · obtain ⟨k0, k1⟩ := hk
      have H0 := Lib.hid k0
      have H1 := Lib.hid k1
      clear k0 k1
      go_wp2_with fail
      refine (add_z (17592186043904) (b) (c) _ _ _ ((H0.out).mono (by omega)) ((H1.out).mono (by omega)) (by omega)).mono ?_
      rintro e w2 ⟨he2, x, rfl, hx⟩
      have HX := Lib.hid hx
      clear hx
      go_wp2_with fail
      exact ⟨rfl, he2, HX.out⟩
    · obtain ⟨k0, k1⟩ := hk
      have H0 := Lib.hid k0
      have H1 : Hid (IsC (17592186043905) ((b) + (c)) u8 w1) := Lib.hid (by first | exact k1 | simpa using k1)
      clear k0 k1
      go_wp2_with fail
      refine (add_z (17592186043905) (a) ((b) + (c)) _ _ _ ((H0.out).mono (by omega)) ((H1.out.z).mono (by omega)) (by omega)).mono ?_
      rintro e w2 ⟨he2, x, rfl, hx⟩
      have HX := Lib.hid hx
      clear hx
      go_wp2_with fail
      exact ⟨rfl, he2, HX.out⟩
    · obtain ⟨k0, k1⟩ := hk
      have H0 : Hid (IsC (17592186043906) (((a) + (b)) + (c)) u4 w1) := Lib.hid (by first | exact k0 | simpa using k0)
      have H1 : Hid (IsC (17592186043906) ((a) + ((b) + (c))) u9 w1) := Lib.hid (by first | exact k1 | simpa using k1)
      clear k0 k1
      go_wp2_with fail
      refine (same_z (17592186043906) (17592186043906) (((a) + (b)) + (c)) ((a) + ((b) + (c))) _ _ _ (H0.out.z) (H1.out.z) (by omega) (by omega)).mono ?_
      rintro e w2 ⟨he2, x, rfl, hx⟩
      obtain rfl : x = .bool true := hx.trans (by congr 1; exact decide_eq_true (by omega))
      go_wp2_with fail
      exact ⟨rfl, he2, rfl⟩
    · have k0 := hk
      obtain rfl : u10 = .bool true := k0
      go_wp2_with fail
      exact ⟨rfl, Ext.refl _, by show (_ : Value) = _; (first | rfl | simp); try rfl⟩
    · have k0 := hk
      obtain rfl : u11 = .bool true := k0
      have hb := he.block ((Ext.alloc _ _).block ((Ext.alloc _ _).block (heap_alloc_new _ _)))
      have hc0 := blk_cell hb 0
      have hc1 := blk_cell hb 1
      simp at hc0 hc1
      clear hb
      go_wp2_with fail
      exact ⟨rfl, Ext.refl _, HZ0.out.ext ((((Ext.alloc _ _).trans (Ext.alloc _ _)).trans (Ext.alloc _ _)).trans he)⟩
    · have k0 := hk
      obtain rfl : u11 = .bool true := k0
      have hb := he.block ((Ext.alloc _ _).block (heap_second _ _ _))
      have hc0 := blk_cell hb 0
      have hc1 := blk_cell hb 1
      simp at hc0 hc1
      clear hb
      go_wp2_with fail
      exact ⟨rfl, Ext.refl _, HZ1.out.ext ((((Ext.alloc _ _).trans (Ext.alloc _ _)).trans (Ext.alloc _ _)).trans he)⟩
    · obtain ⟨k0, k1, k2⟩ := hk
      obtain rfl : u11 = .bool true := k2
      have H0 := Lib.hid k0
      have H1 := Lib.hid k1
      clear k0 k1
      go_wp2_with fail
      refine (add_z (17592186043904) (a) (b) _ _ _ ((H0.out).mono (by omega)) ((H1.out).mono (by omega)) (by omega)).mono ?_
      rintro e w2 ⟨he2, x, rfl, hx⟩
      have HX := Lib.hid hx
      clear hx
      go_wp2_with fail
      exact ⟨rfl, he2, HX.out⟩
    · have k0 := hk
      obtain rfl : u11 = .bool true := k0
      have hb := he.block (heap_third' _ _ _ _)
      have hc0 := blk_cell hb 0
      have hc1 := blk_cell hb 1
      simp at hc0 hc1
      clear hb
      go_wp2_with fail
      exact ⟨rfl, Ext.refl _, HZ2.out.ext ((((Ext.alloc _ _).trans (Ext.alloc _ _)).trans (Ext.alloc _ _)).trans he)⟩
    · obtain ⟨k0, k1, k2⟩ := hk
      obtain rfl : u11 = .bool true := k2
      have H0 : Hid (IsC (17592186043905) ((a) + (b)) u14 w1) := Lib.hid (by first | exact k0 | simpa using k0)
      have H1 := Lib.hid k1
      clear k0 k1
      go_wp2_with fail
      refine (add_z (17592186043905) ((a) + (b)) (c) _ _ _ ((H0.out.z).mono (by omega)) ((H1.out).mono (by omega)) (by omega)).mono ?_
      rintro e w2 ⟨he2, x, rfl, hx⟩
      have HX := Lib.hid hx
      clear hx
      go_wp2_with fail
      exact ⟨rfl, he2, HX.out⟩
    · have k0 := hk
      obtain rfl : u11 = .bool true := k0
      have hb := he.block ((Ext.alloc _ _).block ((Ext.alloc _ _).block (heap_alloc_new _ _)))
      have hc0 := blk_cell hb 0
      have hc1 := blk_cell hb 1
      simp at hc0 hc1
      clear hb
      go_wp2_with fail
      exact ⟨rfl, Ext.refl _, HZ0.out.ext ((((Ext.alloc _ _).trans (Ext.alloc _ _)).trans (Ext.alloc _ _)).trans he)⟩
    · have k0 := hk
      obtain rfl : u11 = .bool true := k0
      have hb := he.block ((Ext.alloc _ _).block (heap_second _ _ _))
      have hc0 := blk_cell hb 0
      have hc1 := blk_cell hb 1
      simp at hc0 hc1
      clear hb
      go_wp2_with fail
      exact ⟨rfl, Ext.refl _, HZ1.out.ext ((((Ext.alloc _ _).trans (Ext.alloc _ _)).trans (Ext.alloc _ _)).trans he)⟩
    · obtain ⟨k0, k1, k2⟩ := hk
      obtain rfl : u11 = .bool true := k2
      have H0 := Lib.hid k0
      have H1 := Lib.hid k1
      clear k0 k1
      go_wp2_with fail
      refine (add_z (17592186043904) (a) (b) _ _ _ ((H0.out).mono (by omega)) ((H1.out).mono (by omega)) (by omega)).mono ?_
      rintro e w2 ⟨he2, x, rfl, hx⟩
      have HX := Lib.hid hx
      clear hx
      go_wp2_with fail
      exact ⟨rfl, he2, HX.out⟩
    · obtain ⟨k0, k1, k2⟩ := hk
      obtain rfl : u11 = .bool true := k2
      have H0 : Hid (IsC (17592186043906) (((a) + (b)) + (c)) u16 w1) := Lib.hid (by first | exact k0 | simpa using k0)
      have H1 : Hid (IsC (17592186043905) ((a) + (b)) u19 w1) := Lib.hid (by first | exact k1 | simpa using k1)
      clear k0 k1
      go_wp2_with fail
      refine (sub_z (17592186043906) (((a) + (b)) + (c)) ((a) + (b)) _ _ _ ((H0.out.z).mono (by omega)) ((H1.out.z).mono (by omega)) (by omega)).mono ?_
      rintro e w2 ⟨he2, x, rfl, hx⟩
      have HX := Lib.hid hx
      clear hx
      go_wp2_with fail
      exact ⟨rfl, he2, HX.out⟩
    · have k0 := hk
      obtain rfl : u11 = .bool true := k0
      have hb := he.block (heap_third' _ _ _ _)
      have hc0 := blk_cell hb 0
      have hc1 := blk_cell hb 1
      simp at hc0 hc1
      clear hb
      go_wp2_with fail
      exact ⟨rfl, Ext.refl _, HZ2.out.ext ((((Ext.alloc _ _).trans (Ext.alloc _ _)).trans (Ext.alloc _ _)).trans he)⟩
    · obtain ⟨k0, k1, k2⟩ := hk
      obtain rfl : u11 = .bool true := k2
      have H0 : Hid (IsC (17592186043907) ((((a) + (b)) + (c)) - ((a) + (b))) u20 w1) := Lib.hid (by first | exact k0 | simpa using k0)
      have H1 := Lib.hid k1
      clear k0 k1
      go_wp2_with fail
      refine (same_z (17592186043907) (17592186043904) ((((a) + (b)) + (c)) - ((a) + (b))) (c) _ _ _ (H0.out.z) (H1.out) (by omega) (by omega)).mono ?_
      rintro e w2 ⟨he2, x, rfl, hx⟩
      obtain rfl : x = .bool true := hx.trans (by congr 1; exact decide_eq_true (by omega))
      go_wp2_with fail
      exact ⟨rfl, he2, rfl⟩
    · obtain ⟨k0, k1⟩ := hk
      obtain rfl : u11 = .bool true := k0
      obtain rfl : u22 = .bool true := k1
      go_wp2_with fail
      exact ⟨rfl, Ext.refl _, by show (_ : Value) = _; (first | rfl | simp); try rfl⟩
  case last =>
    intro w1 he u0 h0 u1 h1 u2 h2 u3 h3 u4 h4 u5 h5 u6 h6 u7 h7 u8 h8 u9 h9 u10 h10 u11 h11 u12 h12 u13 h13 u14 h14 u15 h15 u16 h16 u17 h17 u18 h18 u19 h19 u20 h20 u21 h21 u22 h22 u23 h23
    obtain rfl : u23 = .bool true := h23
    clear h0 h1 h2 h3 h4 h5 h6 h7 h8 h9 h10 h11 h12 h13 h14 h15 h16 h17 h18 h19 h20 h21 h22
    simp only [LastD, Act.put, List.setIfInBounds_toArray, List.set_cons_succ, List.set_cons_zero]
    have HE := Lib.hid ((((Ext.alloc _ _).trans (Ext.alloc _ _)).trans (Ext.alloc _ _)).trans he)
    clear he
    go_wp2_with fail
    go_ret
    exact ⟨HE.out, rfl⟩

set_option maxHeartbeats 1000000 in
theorem fnAddZero_walk (n0 : Bool) (v0 : Value) (ws0 : List Nat) (w : World) (hr0 : Rd .u64 w v0 ws0) (hl0 : ws0.length ≤ 17592186043904)  :
    Calls Try.prog 11 #[.agg #[.bool n0, v0]] w (ValR (.bool true) w) := by
  obtain ⟨a0, c0, rfl⟩ := hr0.form
  have hz0 : IsZ 17592186043904 (ival n0 ws0) (.agg #[.bool n0, .slice a0 ws0.length c0]) w := ⟨n0, _, ws0, rfl, hr0, hl0, rfl⟩
  generalize hg0 : ival n0 ws0 = a at hz0
  have HZ0 := Lib.hid hz0
  have HG0 := Lib.hid hg0
  clear hz0 hg0 hr0
  go_enter Try.func11, Try.ntmps11
  go_wp2_with fail
  refine wp_region_D preExt mixed [IsZ (17592186043904) (a), IsW (1) (0), IsC (17592186043905) ((a) + (0)), IsZ (17592186043904) (a), Is (.bool true), Is (.bool true), IsZ (17592186043904) (a), IsW (1) (0), IsC (17592186043905) ((a) - (0)), IsZ (17592186043904) (a), Is (.bool true), Is (.bool true), Is (.bool true), IsZ (17592186043904) (a), IsZ (17592186043904) (a), IsC (17592186043905) ((a) - (a)), IsW (1) (0), Is (.bool true), Is (.bool true), Is (.bool true), IsW (1) (0), IsZ (17592186043904) (a), IsC (17592186043905) ((0) - (a)), IsZ (17592186043904) (a), IsC (17592186043904) (-(a)), Is (.bool true), Is (.bool true)] (by kernel_rfl) ?mono rfl ?steps ?last
  case mono =>
    simp only [List.forall_mem_cons, List.not_mem_nil, false_implies, implies_true, and_true]
    refine ⟨?_, ?_, ?_, ?_, ?_, ?_, ?_, ?_, ?_, ?_, ?_, ?_, ?_, ?_, ?_, ?_, ?_, ?_, ?_, ?_, ?_, ?_, ?_, ?_, ?_, ?_, ?_⟩
    all_goals first | exact fun _ _ _ _ q => q | exact fun _ _ _ he q => q.ext he
  case steps =>
    refine ⟨?_, ?_, ?_, ?_, ?_, ?_, ?_, ?_, ?_, ?_, ?_, ?_, ?_, ?_, ?_, ?_, ?_, ?_, ?_, ?_, ?_, ?_, ?_, ?_, ?_, ?_, ?_, trivial⟩
    all_goals
      intro u0 u1 u2 u3 u4 u5 u6 u7 u8 u9 u10 u11 u12 u13 u14 u15 u16 u17 u18 u19 u20 u21 u22 u23 u24 u25 u26 u27 w1 he hk
      simp [KnownD, Oper.looksAt, Op.operands, Call.operands, List.findIdx?_cons, Act.put] at hk
      simp only [Act.put, List.setIfInBounds_toArray, List.set_cons_succ, List.set_cons_zero]
    · have hb := he.block (heap_alloc_new _ _)
      have hc0 := blk_cell hb 0
      have hc1 := blk_cell hb 1
      simp at hc0 hc1
      clear hb
      go_wp2_with fail
      exact ⟨rfl, Ext.refl _, HZ0.out.ext ((Ext.alloc _ _).trans he)⟩
    · go_wp2_with fail
      refine (of_z (0) _ (by decide) (by decide)).mono ?_
      rintro e w2 ⟨he2, x, rfl, hx⟩
      have HX := Lib.hid hx
      clear hx
      go_wp2_with fail
      exact ⟨rfl, he2, HX.out⟩
    · obtain ⟨k0, k1⟩ := hk
      have H0 := Lib.hid k0
      have H1 := Lib.hid k1
      clear k0 k1
      go_wp2_with fail
      refine (add_z (17592186043904) (a) (0) _ _ _ ((H0.out).mono (by omega)) ((H1.out.z).mono (by omega)) (by omega)).mono ?_
      rintro e w2 ⟨he2, x, rfl, hx⟩
      have HX := Lib.hid hx
      clear hx
      go_wp2_with fail
      exact ⟨rfl, he2, HX.out⟩
    · have hb := he.block (heap_alloc_new _ _)
      have hc0 := blk_cell hb 0
      have hc1 := blk_cell hb 1
      simp at hc0 hc1
      clear hb
      go_wp2_with fail
      exact ⟨rfl, Ext.refl _, HZ0.out.ext ((Ext.alloc _ _).trans he)⟩
    · obtain ⟨k0, k1⟩ := hk
      have H0 : Hid (IsC (17592186043905) ((a) + (0)) u2 w1) := Lib.hid (by first | exact k0 | simpa using k0)
      have H1 := Lib.hid k1
      clear k0 k1
      go_wp2_with fail
      refine (same_z (17592186043905) (17592186043904) ((a) + (0)) (a) _ _ _ (H0.out.z) (H1.out) (by omega) (by omega)).mono ?_
      rintro e w2 ⟨he2, x, rfl, hx⟩
      obtain rfl : x = .bool true := hx.trans (by congr 1; exact decide_eq_true (by omega))
      go_wp2_with fail
      exact ⟨rfl, he2, rfl⟩
    · have k0 := hk
      obtain rfl : u4 = .bool true := k0
      go_wp2_with fail
      exact ⟨rfl, Ext.refl _, by show (_ : Value) = _; (first | rfl | simp); try rfl⟩
    · have k0 := hk
      obtain rfl : u5 = .bool true := k0
      have hb := he.block (heap_alloc_new _ _)
      have hc0 := blk_cell hb 0
      have hc1 := blk_cell hb 1
      simp at hc0 hc1
      clear hb
      go_wp2_with fail
      exact ⟨rfl, Ext.refl _, HZ0.out.ext ((Ext.alloc _ _).trans he)⟩
    · have k0 := hk
      obtain rfl : u5 = .bool true := k0
      go_wp2_with fail
      refine (of_z (0) _ (by decide) (by decide)).mono ?_
      rintro e w2 ⟨he2, x, rfl, hx⟩
      have HX := Lib.hid hx
      clear hx
      go_wp2_with fail
      exact ⟨rfl, he2, HX.out⟩
    · obtain ⟨k0, k1, k2⟩ := hk
      obtain rfl : u5 = .bool true := k2
      have H0 := Lib.hid k0
      have H1 := Lib.hid k1
      clear k0 k1
      go_wp2_with fail
      refine (sub_z (17592186043904) (a) (0) _ _ _ ((H0.out).mono (by omega)) ((H1.out.z).mono (by omega)) (by omega)).mono ?_
      rintro e w2 ⟨he2, x, rfl, hx⟩
      have HX := Lib.hid hx
      clear hx
      go_wp2_with fail
      exact ⟨rfl, he2, HX.out⟩
    · have k0 := hk
      obtain rfl : u5 = .bool true := k0
      have hb := he.block (heap_alloc_new _ _)
      have hc0 := blk_cell hb 0
      have hc1 := blk_cell hb 1
      simp at hc0 hc1
      clear hb
      go_wp2_with fail
      exact ⟨rfl, Ext.refl _, HZ0.out.ext ((Ext.alloc _ _).trans he)⟩
    · obtain ⟨k0, k1, k2⟩ := hk
      obtain rfl : u5 = .bool true := k2
      have H0 : Hid (IsC (17592186043905) ((a) - (0)) u8 w1) := Lib.hid (by first | exact k0 | simpa using k0)
      have H1 := Lib.hid k1
      clear k0 k1
      go_wp2_with fail
      refine (same_z (17592186043905) (17592186043904) ((a) - (0)) (a) _ _ _ (H0.out.z) (H1.out) (by omega) (by omega)).mono ?_
      rintro e w2 ⟨he2, x, rfl, hx⟩
      obtain rfl : x = .bool true := hx.trans (by congr 1; exact decide_eq_true (by omega))
      go_wp2_with fail
      exact ⟨rfl, he2, rfl⟩
    · obtain ⟨k0, k1⟩ := hk
      obtain rfl : u5 = .bool true := k0
      obtain rfl : u10 = .bool true := k1
      go_wp2_with fail
      exact ⟨rfl, Ext.refl _, by show (_ : Value) = _; (first | rfl | simp); try rfl⟩
    · have k0 := hk
      obtain rfl : u11 = .bool true := k0
      go_wp2_with fail
      exact ⟨rfl, Ext.refl _, by show (_ : Value) = _; (first | rfl | simp); try rfl⟩
    · have k0 := hk
      obtain rfl : u12 = .bool true := k0
      have hb := he.block (heap_alloc_new _ _)
      have hc0 := blk_cell hb 0
      have hc1 := blk_cell hb 1
      simp at hc0 hc1
      clear hb
      go_wp2_with fail
      exact ⟨rfl, Ext.refl _, HZ0.out.ext ((Ext.alloc _ _).trans he)⟩
    · have k0 := hk
      obtain rfl : u12 = .bool true := k0
      have hb := he.block (heap_alloc_new _ _)
      have hc0 := blk_cell hb 0
      have hc1 := blk_cell hb 1
      simp at hc0 hc1
      clear hb
      go_wp2_with fail
      exact ⟨rfl, Ext.refl _, HZ0.out.ext ((Ext.alloc _ _).trans he)⟩
    · obtain ⟨k0, k1, k2⟩ := hk
      obtain rfl : u12 = .bool true := k2
      have H0 := Lib.hid k0
      have H1 := Lib.hid k1
      clear k0 k1
      go_wp2_with fail
      refine (sub_z (17592186043904) (a) (a) _ _ _ ((H0.out).mono (by omega)) ((H1.out).mono (by omega)) (by omega)).mono ?_
      rintro e w2 ⟨he2, x, rfl, hx⟩
      have HX := Lib.hid hx
      clear hx
      go_wp2_with fail
      exact ⟨rfl, he2, HX.out⟩
    · have k0 := hk
      obtain rfl : u12 = .bool true := k0
      go_wp2_with fail
      refine (of_z (0) _ (by decide) (by decide)).mono ?_
      rintro e w2 ⟨he2, x, rfl, hx⟩
      have HX := Lib.hid hx
      clear hx
      go_wp2_with fail
      exact ⟨rfl, he2, HX.out⟩
    · obtain ⟨k0, k1, k2⟩ := hk
      obtain rfl : u12 = .bool true := k2
      have H0 : Hid (IsC (17592186043905) ((a) - (a)) u15 w1) := Lib.hid (by first | exact k0 | simpa using k0)
      have H1 := Lib.hid k1
      clear k0 k1
      go_wp2_with fail
      refine (same_z (17592186043905) (1) ((a) - (a)) (0) _ _ _ (H0.out.z) (H1.out.z) (by omega) (by omega)).mono ?_
      rintro e w2 ⟨he2, x, rfl, hx⟩
      obtain rfl : x = .bool true := hx.trans (by congr 1; exact decide_eq_true (by omega))
      go_wp2_with fail
      exact ⟨rfl, he2, rfl⟩
    · obtain ⟨k0, k1⟩ := hk
      obtain rfl : u12 = .bool true := k0
      obtain rfl : u17 = .bool true := k1
      go_wp2_with fail
      exact ⟨rfl, Ext.refl _, by show (_ : Value) = _; (first | rfl | simp); try rfl⟩
    · have k0 := hk
      obtain rfl : u18 = .bool true := k0
      go_wp2_with fail
      exact ⟨rfl, Ext.refl _, by show (_ : Value) = _; (first | rfl | simp); try rfl⟩
    · have k0 := hk
      obtain rfl : u19 = .bool true := k0
      go_wp2_with fail
      refine (of_z (0) _ (by decide) (by decide)).mono ?_
      rintro e w2 ⟨he2, x, rfl, hx⟩
      have HX := Lib.hid hx
      clear hx
      go_wp2_with fail
      exact ⟨rfl, he2, HX.out⟩
    · have k0 := hk
      obtain rfl : u19 = .bool true := k0
      have hb := he.block (heap_alloc_new _ _)
      have hc0 := blk_cell hb 0
      have hc1 := blk_cell hb 1
      simp at hc0 hc1
      clear hb
      go_wp2_with fail
      exact ⟨rfl, Ext.refl _, HZ0.out.ext ((Ext.alloc _ _).trans he)⟩
    · obtain ⟨k0, k1, k2⟩ := hk
      obtain rfl : u19 = .bool true := k2
      have H0 := Lib.hid k0
      have H1 := Lib.hid k1
      clear k0 k1
      go_wp2_with fail
      refine (sub_z (17592186043904) (0) (a) _ _ _ ((H0.out.z).mono (by omega)) ((H1.out).mono (by omega)) (by omega)).mono ?_
      rintro e w2 ⟨he2, x, rfl, hx⟩
      have HX := Lib.hid hx
      clear hx
      go_wp2_with fail
      exact ⟨rfl, he2, HX.out⟩
    · have k0 := hk
      obtain rfl : u19 = .bool true := k0
      have hb := he.block (heap_alloc_new _ _)
      have hc0 := blk_cell hb 0
      have hc1 := blk_cell hb 1
      simp at hc0 hc1
      clear hb
      go_wp2_with fail
      exact ⟨rfl, Ext.refl _, HZ0.out.ext ((Ext.alloc _ _).trans he)⟩
    · obtain ⟨k0, k1⟩ := hk
      obtain rfl : u19 = .bool true := k1
      have H0 := Lib.hid k0
      clear k0
      go_wp2_with fail
      refine (neg_z (17592186043904) (a) _ _ (H0.out) (by omega)).mono ?_
      rintro e w2 ⟨he2, x, rfl, hx⟩
      have HX := Lib.hid hx
      clear hx
      go_wp2_with fail
      exact ⟨rfl, he2, HX.out⟩
    · obtain ⟨k0, k1, k2⟩ := hk
      obtain rfl : u19 = .bool true := k2
      have H0 : Hid (IsC (17592186043905) ((0) - (a)) u22 w1) := Lib.hid (by first | exact k0 | simpa using k0)
      have H1 : Hid (IsC (17592186043904) (-(a)) u24 w1) := Lib.hid (by first | exact k1 | simpa using k1)
      clear k0 k1
      go_wp2_with fail
      refine (same_z (17592186043905) (17592186043904) ((0) - (a)) (-(a)) _ _ _ (H0.out.z) (H1.out.z) (by omega) (by omega)).mono ?_
      rintro e w2 ⟨he2, x, rfl, hx⟩
      obtain rfl : x = .bool true := hx.trans (by congr 1; exact decide_eq_true (by omega))
      go_wp2_with fail
      exact ⟨rfl, he2, rfl⟩
    · obtain ⟨k0, k1⟩ := hk
      obtain rfl : u19 = .bool true := k0
      obtain rfl : u25 = .bool true := k1
      go_wp2_with fail
      exact ⟨rfl, Ext.refl _, by show (_ : Value) = _; (first | rfl | simp); try rfl⟩
  case last =>
    intro w1 he u0 h0 u1 h1 u2 h2 u3 h3 u4 h4 u5 h5 u6 h6 u7 h7 u8 h8 u9 h9 u10 h10 u11 h11 u12 h12 u13 h13 u14 h14 u15 h15 u16 h16 u17 h17 u18 h18 u19 h19 u20 h20 u21 h21 u22 h22 u23 h23 u24 h24 u25 h25 u26 h26
    obtain rfl : u26 = .bool true := h26
    clear h0 h1 h2 h3 h4 h5 h6 h7 h8 h9 h10 h11 h12 h13 h14 h15 h16 h17 h18 h19 h20 h21 h22 h23 h24 h25
    simp only [LastD, Act.put, List.setIfInBounds_toArray, List.set_cons_succ, List.set_cons_zero]
    have HE := Lib.hid ((Ext.alloc _ _).trans he)
    clear he
    go_wp2_with fail
    go_ret
    exact ⟨HE.out, rfl⟩

set_option maxHeartbeats 1000000 in
theorem fnSubUndoes_walk (n0 : Bool) (v0 : Value) (ws0 : List Nat) (n1 : Bool) (v1 : Value) (ws1 : List Nat) (w : World) (hr0 : Rd .u64 w v0 ws0) (hl0 : ws0.length ≤ 17592186043904) (hr1 : Rd .u64 w v1 ws1) (hl1 : ws1.length ≤ 17592186043904)  :
    Calls Try.prog 12 #[.agg #[.bool n0, v0], .agg #[.bool n1, v1]] w (ValR (.bool true) w) := by
  obtain ⟨a0, c0, rfl⟩ := hr0.form
  have hz0 : IsZ 17592186043904 (ival n0 ws0) (.agg #[.bool n0, .slice a0 ws0.length c0]) w := ⟨n0, _, ws0, rfl, hr0, hl0, rfl⟩
  generalize hg0 : ival n0 ws0 = a at hz0
  have HZ0 := Lib.hid hz0
  have HG0 := Lib.hid hg0
  clear hz0 hg0 hr0
  obtain ⟨a1, c1, rfl⟩ := hr1.form
  have hz1 : IsZ 17592186043904 (ival n1 ws1) (.agg #[.bool n1, .slice a1 ws1.length c1]) w := ⟨n1, _, ws1, rfl, hr1, hl1, rfl⟩
  generalize hg1 : ival n1 ws1 = b at hz1
  have HZ1 := Lib.hid hz1
  have HG1 := Lib.hid hg1
  clear hz1 hg1 hr1
  go_enter Try.func12, Try.ntmps12
  go_wp2_with fail
  refine wp_region_D preExt mixed [IsZ (17592186043904) (a), IsZ (17592186043904) (b), IsC (17592186043905) ((a) - (b)), IsZ (17592186043904) (b), IsC (17592186043906) (((a) - (b)) + (b)), IsZ (17592186043904) (a), Is (.bool true), Is (.bool true), IsZ (17592186043904) (a), IsZ (17592186043904) (b), IsC (17592186043905) ((a) + (b)), IsZ (17592186043904) (b), IsC (17592186043906) (((a) + (b)) - (b)), IsZ (17592186043904) (a), Is (.bool true), Is (.bool true), Is (.bool true), IsZ (17592186043904) (a), IsZ (17592186043904) (b), IsC (17592186043905) ((a) - (b)), IsZ (17592186043904) (a), IsZ (17592186043904) (b), IsC (17592186043904) (-(b)), IsC (17592186043905) ((a) + (-(b))), Is (.bool true), Is (.bool true)] (by kernel_rfl) ?mono rfl ?steps ?last
  case mono =>
    simp only [List.forall_mem_cons, List.not_mem_nil, false_implies, implies_true, and_true]
    refine ⟨?_, ?_, ?_, ?_, ?_, ?_, ?_, ?_, ?_, ?_, ?_, ?_, ?_, ?_, ?_, ?_, ?_, ?_, ?_, ?_, ?_, ?_, ?_, ?_, ?_, ?_⟩
    all_goals first | exact fun _ _ _ _ q => q | exact fun _ _ _ he q => q.ext he
  case steps =>
    refine ⟨?_, ?_, ?_, ?_, ?_, ?_, ?_, ?_, ?_, ?_, ?_, ?_, ?_, ?_, ?_, ?_, ?_, ?_, ?_, ?_, ?_, ?_, ?_, ?_, ?_, ?_, trivial⟩
    all_goals
      intro u0 u1 u2 u3 u4 u5 u6 u7 u8 u9 u10 u11 u12 u13 u14 u15 u16 u17 u18 u19 u20 u21 u22 u23 u24 u25 u26 w1 he hk
      simp [KnownD, Oper.looksAt, Op.operands, Call.operands, List.findIdx?_cons, Act.put] at hk
      simp only [Act.put, List.setIfInBounds_toArray, List.set_cons_succ, List.set_cons_zero]
    · have hb := he.block ((Ext.alloc _ _).block (heap_alloc_new _ _))
      have hc0 := blk_cell hb 0
      have hc1 := blk_cell hb 1
      simp at hc0 hc1
      clear hb
      go_wp2_with fail
      exact ⟨rfl, Ext.refl _, HZ0.out.ext (((Ext.alloc _ _).trans (Ext.alloc _ _)).trans he)⟩
    · have hb := he.block (heap_second _ _ _)
      have hc0 := blk_cell hb 0
      have hc1 := blk_cell hb 1
      simp at hc0 hc1
      clear hb
      go_wp2_with fail
      exact ⟨rfl, Ext.refl _, HZ1.out.ext (((Ext.alloc _ _).trans (Ext.alloc _ _)).trans he)⟩
    · obtain ⟨k0, k1⟩ := hk
      have H0 := Lib.hid k0
      have H1 := Lib.hid k1
      clear k0 k1
      go_wp2_with fail
      refine (sub_z (17592186043904) (a) (b) _ _ _ ((H0.out).mono (by omega)) ((H1.out).mono (by omega)) (by omega)).mono ?_
      rintro e w2 ⟨he2, x, rfl, hx⟩
      have HX := Lib.hid hx
      clear hx
      go_wp2_with fail
      exact ⟨rfl, he2, HX.out⟩
    · have hb := he.block (heap_second _ _ _)
      have hc0 := blk_cell hb 0
      have hc1 := blk_cell hb 1
      simp at hc0 hc1
      clear hb
      go_wp2_with fail
      exact ⟨rfl, Ext.refl _, HZ1.out.ext (((Ext.alloc _ _).trans (Ext.alloc _ _)).trans he)⟩
    · obtain ⟨k0, k1⟩ := hk
      have H0 : Hid (IsC (17592186043905) ((a) - (b)) u2 w1) := Lib.hid (by first | exact k0 | simpa using k0)
      have H1 := Lib.hid k1
      clear k0 k1
      go_wp2_with fail
      refine (add_z (17592186043905) ((a) - (b)) (b) _ _ _ ((H0.out.z).mono (by omega)) ((H1.out).mono (by omega)) (by omega)).mono ?_
      rintro e w2 ⟨he2, x, rfl, hx⟩
      have HX := Lib.hid hx
      clear hx
      go_wp2_with fail
      exact ⟨rfl, he2, HX.out⟩
    · have hb := he.block ((Ext.alloc _ _).block (heap_alloc_new _ _))
      have hc0 := blk_cell hb 0
      have hc1 := blk_cell hb 1
      simp at hc0 hc1
      clear hb
      go_wp2_with fail
      exact ⟨rfl, Ext.refl _, HZ0.out.ext (((Ext.alloc _ _).trans (Ext.alloc _ _)).trans he)⟩
    · obtain ⟨k0, k1⟩ := hk
      have H0 : Hid (IsC (17592186043906) (((a) - (b)) + (b)) u4 w1) := Lib.hid (by first | exact k0 | simpa using k0)
      have H1 := Lib.hid k1
      clear k0 k1
      go_wp2_with fail
      refine (same_z (17592186043906) (17592186043904) (((a) - (b)) + (b)) (a) _ _ _ (H0.out.z) (H1.out) (by omega) (by omega)).mono ?_
      rintro e w2 ⟨he2, x, rfl, hx⟩
      obtain rfl : x = .bool true := hx.trans (by congr 1; exact decide_eq_true (by omega))
      go_wp2_with fail
      exact ⟨rfl, he2, rfl⟩
    · have k0 := hk
      obtain rfl : u6 = .bool true := k0
      go_wp2_with fail
      exact ⟨rfl, Ext.refl _, by show (_ : Value) = _; (first | rfl | simp); try rfl⟩
    · have k0 := hk
      obtain rfl : u7 = .bool true := k0
      have hb := he.block ((Ext.alloc _ _).block (heap_alloc_new _ _))
      have hc0 := blk_cell hb 0
      have hc1 := blk_cell hb 1
      simp at hc0 hc1
      clear hb
      go_wp2_with fail
      exact ⟨rfl, Ext.refl _, HZ0.out.ext (((Ext.alloc _ _).trans (Ext.alloc _ _)).trans he)⟩
    · have k0 := hk
      obtain rfl : u7 = .bool true := k0
      have hb := he.block (heap_second _ _ _)
      have hc0 := blk_cell hb 0
      have hc1 := blk_cell hb 1
      simp at hc0 hc1
      clear hb
      go_wp2_with fail
      exact ⟨rfl, Ext.refl _, HZ1.out.ext (((Ext.alloc _ _).trans (Ext.alloc _ _)).trans he)⟩
    · obtain ⟨k0, k1, k2⟩ := hk
      obtain rfl : u7 = .bool true := k2
      have H0 := Lib.hid k0
      have H1 := Lib.hid k1
      clear k0 k1
      go_wp2_with fail
      refine (add_z (17592186043904) (a) (b) _ _ _ ((H0.out).mono (by omega)) ((H1.out).mono (by omega)) (by omega)).mono ?_
      rintro e w2 ⟨he2, x, rfl, hx⟩
      have HX := Lib.hid hx
      clear hx
      go_wp2_with fail
      exact ⟨rfl, he2, HX.out⟩
    · have k0 := hk
      obtain rfl : u7 = .bool true := k0
      have hb := he.block (heap_second _ _ _)
      have hc0 := blk_cell hb 0
      have hc1 := blk_cell hb 1
      simp at hc0 hc1
      clear hb
      go_wp2_with fail
      exact ⟨rfl, Ext.refl _, HZ1.out.ext (((Ext.alloc _ _).trans (Ext.alloc _ _)).trans he)⟩
    · obtain ⟨k0, k1, k2⟩ := hk
      obtain rfl : u7 = .bool true := k2
      have H0 : Hid (IsC (17592186043905) ((a) + (b)) u10 w1) := Lib.hid (by first | exact k0 | simpa using k0)
      have H1 := Lib.hid k1
      clear k0 k1
      go_wp2_with fail
      refine (sub_z (17592186043905) ((a) + (b)) (b) _ _ _ ((H0.out.z).mono (by omega)) ((H1.out).mono (by omega)) (by omega)).mono ?_
      rintro e w2 ⟨he2, x, rfl, hx⟩
      have HX := Lib.hid hx
      clear hx
      go_wp2_with fail
      exact ⟨rfl, he2, HX.out⟩
    · have k0 := hk
      obtain rfl : u7 = .bool true := k0
      have hb := he.block ((Ext.alloc _ _).block (heap_alloc_new _ _))
      have hc0 := blk_cell hb 0
      have hc1 := blk_cell hb 1
      simp at hc0 hc1
      clear hb
      go_wp2_with fail
      exact ⟨rfl, Ext.refl _, HZ0.out.ext (((Ext.alloc _ _).trans (Ext.alloc _ _)).trans he)⟩
    · obtain ⟨k0, k1, k2⟩ := hk
      obtain rfl : u7 = .bool true := k2
      have H0 : Hid (IsC (17592186043906) (((a) + (b)) - (b)) u12 w1) := Lib.hid (by first | exact k0 | simpa using k0)
      have H1 := Lib.hid k1
      clear k0 k1
      go_wp2_with fail
      refine (same_z (17592186043906) (17592186043904) (((a) + (b)) - (b)) (a) _ _ _ (H0.out.z) (H1.out) (by omega) (by omega)).mono ?_
      rintro e w2 ⟨he2, x, rfl, hx⟩
      obtain rfl : x = .bool true := hx.trans (by congr 1; exact decide_eq_true (by omega))
      go_wp2_with fail
      exact ⟨rfl, he2, rfl⟩
    · obtain ⟨k0, k1⟩ := hk
      obtain rfl : u7 = .bool true := k0
      obtain rfl : u14 = .bool true := k1
      go_wp2_with fail
      exact ⟨rfl, Ext.refl _, by show (_ : Value) = _; (first | rfl | simp); try rfl⟩
    · have k0 := hk
      obtain rfl : u15 = .bool true := k0
      go_wp2_with fail
      exact ⟨rfl, Ext.refl _, by show (_ : Value) = _; (first | rfl | simp); try rfl⟩
    · have k0 := hk
      obtain rfl : u16 = .bool true := k0
      have hb := he.block ((Ext.alloc _ _).block (heap_alloc_new _ _))
      have hc0 := blk_cell hb 0
      have hc1 := blk_cell hb 1
      simp at hc0 hc1
      clear hb
      go_wp2_with fail
      exact ⟨rfl, Ext.refl _, HZ0.out.ext (((Ext.alloc _ _).trans (Ext.alloc _ _)).trans he)⟩
    · have k0 := hk
      obtain rfl : u16 = .bool true := k0
      have hb := he.block (heap_second _ _ _)
      have hc0 := blk_cell hb 0
      have hc1 := blk_cell hb 1
      simp at hc0 hc1
      clear hb
      go_wp2_with fail
      exact ⟨rfl, Ext.refl _, HZ1.out.ext (((Ext.alloc _ _).trans (Ext.alloc _ _)).trans he)⟩
    · obtain ⟨k0, k1, k2⟩ := hk
      obtain rfl : u16 = .bool true := k2
      have H0 := Lib.hid k0
      have H1 := Lib.hid k1
      clear k0 k1
      go_wp2_with fail
      refine (sub_z (17592186043904) (a) (b) _ _ _ ((H0.out).mono (by omega)) ((H1.out).mono (by omega)) (by omega)).mono ?_
      rintro e w2 ⟨he2, x, rfl, hx⟩
      have HX := Lib.hid hx
      clear hx
      go_wp2_with fail
      exact ⟨rfl, he2, HX.out⟩
    · have k0 := hk
      obtain rfl : u16 = .bool true := k0
      have hb := he.block ((Ext.alloc _ _).block (heap_alloc_new _ _))
      have hc0 := blk_cell hb 0
      have hc1 := blk_cell hb 1
      simp at hc0 hc1
      clear hb
      go_wp2_with fail
      exact ⟨rfl, Ext.refl _, HZ0.out.ext (((Ext.alloc _ _).trans (Ext.alloc _ _)).trans he)⟩
    · have k0 := hk
      obtain rfl : u16 = .bool true := k0
      have hb := he.block (heap_second _ _ _)
      have hc0 := blk_cell hb 0
      have hc1 := blk_cell hb 1
      simp at hc0 hc1
      clear hb
      go_wp2_with fail
      exact ⟨rfl, Ext.refl _, HZ1.out.ext (((Ext.alloc _ _).trans (Ext.alloc _ _)).trans he)⟩
    · obtain ⟨k0, k1⟩ := hk
      obtain rfl : u16 = .bool true := k1
      have H0 := Lib.hid k0
      clear k0
      go_wp2_with fail
      refine (neg_z (17592186043904) (b) _ _ (H0.out) (by omega)).mono ?_
      rintro e w2 ⟨he2, x, rfl, hx⟩
      have HX := Lib.hid hx
      clear hx
      go_wp2_with fail
      exact ⟨rfl, he2, HX.out⟩
    · obtain ⟨k0, k1, k2⟩ := hk
      obtain rfl : u16 = .bool true := k2
      have H0 := Lib.hid k0
      have H1 : Hid (IsC (17592186043904) (-(b)) u22 w1) := Lib.hid (by first | exact k1 | simpa using k1)
      clear k0 k1
      go_wp2_with fail
      refine (add_z (17592186043904) (a) (-(b)) _ _ _ ((H0.out).mono (by omega)) ((H1.out.z).mono (by omega)) (by omega)).mono ?_
      rintro e w2 ⟨he2, x, rfl, hx⟩
      have HX := Lib.hid hx
      clear hx
      go_wp2_with fail
      exact ⟨rfl, he2, HX.out⟩
    · obtain ⟨k0, k1, k2⟩ := hk
      obtain rfl : u16 = .bool true := k2
      have H0 : Hid (IsC (17592186043905) ((a) - (b)) u19 w1) := Lib.hid (by first | exact k0 | simpa using k0)
      have H1 : Hid (IsC (17592186043905) ((a) + (-(b))) u23 w1) := Lib.hid (by first | exact k1 | simpa using k1)
      clear k0 k1
      go_wp2_with fail
      refine (same_z (17592186043905) (17592186043905) ((a) - (b)) ((a) + (-(b))) _ _ _ (H0.out.z) (H1.out.z) (by omega) (by omega)).mono ?_
      rintro e w2 ⟨he2, x, rfl, hx⟩
      obtain rfl : x = .bool true := hx.trans (by congr 1; exact decide_eq_true (by omega))
      go_wp2_with fail
      exact ⟨rfl, he2, rfl⟩
    · obtain ⟨k0, k1⟩ := hk
      obtain rfl : u16 = .bool true := k0
      obtain rfl : u24 = .bool true := k1
      go_wp2_with fail
      exact ⟨rfl, Ext.refl _, by show (_ : Value) = _; (first | rfl | simp); try rfl⟩
  case last =>
    intro w1 he u0 h0 u1 h1 u2 h2 u3 h3 u4 h4 u5 h5 u6 h6 u7 h7 u8 h8 u9 h9 u10 h10 u11 h11 u12 h12 u13 h13 u14 h14 u15 h15 u16 h16 u17 h17 u18 h18 u19 h19 u20 h20 u21 h21 u22 h22 u23 h23 u24 h24 u25 h25
    obtain rfl : u25 = .bool true := h25
    clear h0 h1 h2 h3 h4 h5 h6 h7 h8 h9 h10 h11 h12 h13 h14 h15 h16 h17 h18 h19 h20 h21 h22 h23 h24
    simp only [LastD, Act.put, List.setIfInBounds_toArray, List.set_cons_succ, List.set_cons_zero]
    have HE := Lib.hid (((Ext.alloc _ _).trans (Ext.alloc _ _)).trans he)
    clear he
    go_wp2_with fail
    go_ret
    exact ⟨HE.out, rfl⟩

set_option maxHeartbeats 1000000 in
theorem fnNegTwice_walk (n0 : Bool) (v0 : Value) (ws0 : List Nat) (n1 : Bool) (v1 : Value) (ws1 : List Nat) (w : World) (hr0 : Rd .u64 w v0 ws0) (hl0 : ws0.length ≤ 17592186043904) (hr1 : Rd .u64 w v1 ws1) (hl1 : ws1.length ≤ 17592186043904)  :
    Calls Try.prog 5 #[.agg #[.bool n0, v0], .agg #[.bool n1, v1]] w (ValR (.bool true) w) := by
  obtain ⟨a0, c0, rfl⟩ := hr0.form
  have hz0 : IsZ 17592186043904 (ival n0 ws0) (.agg #[.bool n0, .slice a0 ws0.length c0]) w := ⟨n0, _, ws0, rfl, hr0, hl0, rfl⟩
  generalize hg0 : ival n0 ws0 = a at hz0
  have HZ0 := Lib.hid hz0
  have HG0 := Lib.hid hg0
  clear hz0 hg0 hr0
  obtain ⟨a1, c1, rfl⟩ := hr1.form
  have hz1 : IsZ 17592186043904 (ival n1 ws1) (.agg #[.bool n1, .slice a1 ws1.length c1]) w := ⟨n1, _, ws1, rfl, hr1, hl1, rfl⟩
  generalize hg1 : ival n1 ws1 = b at hz1
  have HZ1 := Lib.hid hz1
  have HG1 := Lib.hid hg1
  clear hz1 hg1 hr1
  go_enter Try.func5, Try.ntmps5
  go_wp2_with fail
  refine wp_region_D preExt mixed [IsZ (17592186043904) (a), IsC (17592186043904) (-(a)), IsC (17592186043904) (-(-(a))), IsZ (17592186043904) (a), Is (.bool true), Is (.bool true), IsZ (17592186043904) (a), IsZ (17592186043904) (a), IsC (17592186043904) (-(a)), IsC (17592186043905) ((a) + (-(a))), IsW (1) (0), Is (.bool true), Is (.bool true), Is (.bool true), IsZ (17592186043904) (a), IsZ (17592186043904) (b), IsC (17592186043905) ((a) + (b)), IsC (17592186043905) (-((a) + (b))), IsZ (17592186043904) (a), IsC (17592186043904) (-(a)), IsZ (17592186043904) (b), IsC (17592186043904) (-(b)), IsC (17592186043905) ((-(a)) + (-(b))), Is (.bool true), Is (.bool true)] (by kernel_rfl) ?mono rfl ?steps ?last
  case mono =>
    simp only [List.forall_mem_cons, List.not_mem_nil, false_implies, implies_true, and_true]
    refine ⟨?_, ?_, ?_, ?_, ?_, ?_, ?_, ?_, ?_, ?_, ?_, ?_, ?_, ?_, ?_, ?_, ?_, ?_, ?_, ?_, ?_, ?_, ?_, ?_, ?_⟩
    all_goals first | exact fun _ _ _ _ q => q | exact fun _ _ _ he q => q.ext he
  case steps =>
    refine ⟨?_, ?_, ?_, ?_, ?_, ?_, ?_, ?_, ?_, ?_, ?_, ?_, ?_, ?_, ?_, ?_, ?_, ?_, ?_, ?_, ?_, ?_, ?_, ?_, ?_, trivial⟩
    all_goals
      intro u0 u1 u2 u3 u4 u5 u6 u7 u8 u9 u10 u11 u12 u13 u14 u15 u16 u17 u18 u19 u20 u21 u22 u23 u24 u25 w1 he hk
      simp [KnownD, Oper.looksAt, Op.operands, Call.operands, List.findIdx?_cons, Act.put] at hk
      simp only [Act.put, List.setIfInBounds_toArray, List.set_cons_succ, List.set_cons_zero]
    · have hb := he.block ((Ext.alloc _ _).block (heap_alloc_new _ _))
      have hc0 := blk_cell hb 0
      have hc1 := blk_cell hb 1
      simp at hc0 hc1
      clear hb
      go_wp2_with fail
      exact ⟨rfl, Ext.refl _, HZ0.out.ext (((Ext.alloc _ _).trans (Ext.alloc _ _)).trans he)⟩
    · have k0 := hk
      have H0 := Lib.hid k0
      clear k0
      go_wp2_with fail
      refine (neg_z (17592186043904) (a) _ _ (H0.out) (by omega)).mono ?_
      rintro e w2 ⟨he2, x, rfl, hx⟩
      have HX := Lib.hid hx
      clear hx
      go_wp2_with fail
      exact ⟨rfl, he2, HX.out⟩
    · have k0 := hk
      have H0 : Hid (IsC (17592186043904) (-(a)) u1 w1) := Lib.hid (by first | exact k0 | simpa using k0)
      clear k0
      go_wp2_with fail
      refine (neg_z (17592186043904) (-(a)) _ _ (H0.out.z) (by omega)).mono ?_
      rintro e w2 ⟨he2, x, rfl, hx⟩
      have HX := Lib.hid hx
      clear hx
      go_wp2_with fail
      exact ⟨rfl, he2, HX.out⟩
    · have hb := he.block ((Ext.alloc _ _).block (heap_alloc_new _ _))
      have hc0 := blk_cell hb 0
      have hc1 := blk_cell hb 1
      simp at hc0 hc1
      clear hb
      go_wp2_with fail
      exact ⟨rfl, Ext.refl _, HZ0.out.ext (((Ext.alloc _ _).trans (Ext.alloc _ _)).trans he)⟩
    · obtain ⟨k0, k1⟩ := hk
      have H0 : Hid (IsC (17592186043904) (-(-(a))) u2 w1) := Lib.hid (by first | exact k0 | simpa using k0)
      have H1 := Lib.hid k1
      clear k0 k1
      go_wp2_with fail
      refine (same_z (17592186043904) (17592186043904) (-(-(a))) (a) _ _ _ (H0.out.z) (H1.out) (by omega) (by omega)).mono ?_
      rintro e w2 ⟨he2, x, rfl, hx⟩
      obtain rfl : x = .bool true := hx.trans (by congr 1; exact decide_eq_true (by omega))
      go_wp2_with fail
      exact ⟨rfl, he2, rfl⟩
    · have k0 := hk
      obtain rfl : u4 = .bool true := k0
      go_wp2_with fail
      exact ⟨rfl, Ext.refl _, by show (_ : Value) = _; (first | rfl | simp); try rfl⟩
    · have k0 := hk
      obtain rfl : u5 = .bool true := k0
      have hb := he.block ((Ext.alloc _ _).block (heap_alloc_new _ _))
      have hc0 := blk_cell hb 0
      have hc1 := blk_cell hb 1
      simp at hc0 hc1
      clear hb
      go_wp2_with fail
      exact ⟨rfl, Ext.refl _, HZ0.out.ext (((Ext.alloc _ _).trans (Ext.alloc _ _)).trans he)⟩
    · have k0 := hk
      obtain rfl : u5 = .bool true := k0
      have hb := he.block ((Ext.alloc _ _).block (heap_alloc_new _ _))
      have hc0 := blk_cell hb 0
      have hc1 := blk_cell hb 1
      simp at hc0 hc1
      clear hb
      go_wp2_with fail
      exact ⟨rfl, Ext.refl _, HZ0.out.ext (((Ext.alloc _ _).trans (Ext.alloc _ _)).trans he)⟩
    · obtain ⟨k0, k1⟩ := hk
      obtain rfl : u5 = .bool true := k1
      have H0 := Lib.hid k0
      clear k0
      go_wp2_with fail
      refine (neg_z (17592186043904) (a) _ _ (H0.out) (by omega)).mono ?_
      rintro e w2 ⟨he2, x, rfl, hx⟩
      have HX := Lib.hid hx
      clear hx
      go_wp2_with fail
      exact ⟨rfl, he2, HX.out⟩
    · obtain ⟨k0, k1, k2⟩ := hk
      obtain rfl : u5 = .bool true := k2
      have H0 := Lib.hid k0
      have H1 : Hid (IsC (17592186043904) (-(a)) u8 w1) := Lib.hid (by first | exact k1 | simpa using k1)
      clear k0 k1
      go_wp2_with fail
      refine (add_z (17592186043904) (a) (-(a)) _ _ _ ((H0.out).mono (by omega)) ((H1.out.z).mono (by omega)) (by omega)).mono ?_
      rintro e w2 ⟨he2, x, rfl, hx⟩
      have HX := Lib.hid hx
      clear hx
      go_wp2_with fail
      exact ⟨rfl, he2, HX.out⟩
    · have k0 := hk
      obtain rfl : u5 = .bool true := k0
      go_wp2_with fail
      refine (of_z (0) _ (by decide) (by decide)).mono ?_
      rintro e w2 ⟨he2, x, rfl, hx⟩
      have HX := Lib.hid hx
      clear hx
      go_wp2_with fail
      exact ⟨rfl, he2, HX.out⟩
    · obtain ⟨k0, k1, k2⟩ := hk
      obtain rfl : u5 = .bool true := k2
      have H0 : Hid (IsC (17592186043905) ((a) + (-(a))) u9 w1) := Lib.hid (by first | exact k0 | simpa using k0)
      have H1 := Lib.hid k1
      clear k0 k1
      go_wp2_with fail
      refine (same_z (17592186043905) (1) ((a) + (-(a))) (0) _ _ _ (H0.out.z) (H1.out.z) (by omega) (by omega)).mono ?_
      rintro e w2 ⟨he2, x, rfl, hx⟩
      obtain rfl : x = .bool true := hx.trans (by congr 1; exact decide_eq_true (by omega))
      go_wp2_with fail
      exact ⟨rfl, he2, rfl⟩
    · obtain ⟨k0, k1⟩ := hk
      obtain rfl : u5 = .bool true := k0
      obtain rfl : u11 = .bool true := k1
      go_wp2_with fail
      exact ⟨rfl, Ext.refl _, by show (_ : Value) = _; (first | rfl | simp); try rfl⟩
    · have k0 := hk
      obtain rfl : u12 = .bool true := k0
      go_wp2_with fail
      exact ⟨rfl, Ext.refl _, by show (_ : Value) = _; (first | rfl | simp); try rfl⟩
    · have k0 := hk
      obtain rfl : u13 = .bool true := k0
      have hb := he.block ((Ext.alloc _ _).block (heap_alloc_new _ _))
      have hc0 := blk_cell hb 0
      have hc1 := blk_cell hb 1
      simp at hc0 hc1
      clear hb
      go_wp2_with fail
      exact ⟨rfl, Ext.refl _, HZ0.out.ext (((Ext.alloc _ _).trans (Ext.alloc _ _)).trans he)⟩
    · have k0 := hk
      obtain rfl : u13 = .bool true := k0
      have hb := he.block (heap_second _ _ _)
      have hc0 := blk_cell hb 0
      have hc1 := blk_cell hb 1
      simp at hc0 hc1
      clear hb
      go_wp2_with fail
      exact ⟨rfl, Ext.refl _, HZ1.out.ext (((Ext.alloc _ _).trans (Ext.alloc _ _)).trans he)⟩
    · obtain ⟨k0, k1, k2⟩ := hk
      obtain rfl : u13 = .bool true := k2
      have H0 := Lib.hid k0
      have H1 := Lib.hid k1
      clear k0 k1
      go_wp2_with fail
      refine (add_z (17592186043904) (a) (b) _ _ _ ((H0.out).mono (by omega)) ((H1.out).mono (by omega)) (by omega)).mono ?_
      rintro e w2 ⟨he2, x, rfl, hx⟩
      have HX := Lib.hid hx
      clear hx
      go_wp2_with fail
      exact ⟨rfl, he2, HX.out⟩
    · obtain ⟨k0, k1⟩ := hk
      obtain rfl : u13 = .bool true := k1
      have H0 : Hid (IsC (17592186043905) ((a) + (b)) u16 w1) := Lib.hid (by first | exact k0 | simpa using k0)
      clear k0
      go_wp2_with fail
      refine (neg_z (17592186043905) ((a) + (b)) _ _ (H0.out.z) (by omega)).mono ?_
      rintro e w2 ⟨he2, x, rfl, hx⟩
      have HX := Lib.hid hx
      clear hx
      go_wp2_with fail
      exact ⟨rfl, he2, HX.out⟩
    · have k0 := hk
      obtain rfl : u13 = .bool true := k0
      have hb := he.block ((Ext.alloc _ _).block (heap_alloc_new _ _))
      have hc0 := blk_cell hb 0
      have hc1 := blk_cell hb 1
      simp at hc0 hc1
      clear hb
      go_wp2_with fail
      exact ⟨rfl, Ext.refl _, HZ0.out.ext (((Ext.alloc _ _).trans (Ext.alloc _ _)).trans he)⟩
    · obtain ⟨k0, k1⟩ := hk
      obtain rfl : u13 = .bool true := k1
      have H0 := Lib.hid k0
      clear k0
      go_wp2_with fail
      refine (neg_z (17592186043904) (a) _ _ (H0.out) (by omega)).mono ?_
      rintro e w2 ⟨he2, x, rfl, hx⟩
      have HX := Lib.hid hx
      clear hx
      go_wp2_with fail
      exact ⟨rfl, he2, HX.out⟩
    · have k0 := hk
      obtain rfl : u13 = .bool true := k0
      have hb := he.block (heap_second _ _ _)
      have hc0 := blk_cell hb 0
      have hc1 := blk_cell hb 1
      simp at hc0 hc1
      clear hb
      go_wp2_with fail
      exact ⟨rfl, Ext.refl _, HZ1.out.ext (((Ext.alloc _ _).trans (Ext.alloc _ _)).trans he)⟩
    · obtain ⟨k0, k1⟩ := hk
      obtain rfl : u13 = .bool true := k1
      have H0 := Lib.hid k0
      clear k0
      go_wp2_with fail
      refine (neg_z (17592186043904) (b) _ _ (H0.out) (by omega)).mono ?_
      rintro e w2 ⟨he2, x, rfl, hx⟩
      have HX := Lib.hid hx
      clear hx
      go_wp2_with fail
      exact ⟨rfl, he2, HX.out⟩
    · obtain ⟨k0, k1, k2⟩ := hk
      obtain rfl : u13 = .bool true := k2
      have H0 : Hid (IsC (17592186043904) (-(a)) u19 w1) := Lib.hid (by first | exact k0 | simpa using k0)
      have H1 : Hid (IsC (17592186043904) (-(b)) u21 w1) := Lib.hid (by first | exact k1 | simpa using k1)
      clear k0 k1
      go_wp2_with fail
      refine (add_z (17592186043904) (-(a)) (-(b)) _ _ _ ((H0.out.z).mono (by omega)) ((H1.out.z).mono (by omega)) (by omega)).mono ?_
      rintro e w2 ⟨he2, x, rfl, hx⟩
      have HX := Lib.hid hx
      clear hx
      go_wp2_with fail
      exact ⟨rfl, he2, HX.out⟩
    · obtain ⟨k0, k1, k2⟩ := hk
      obtain rfl : u13 = .bool true := k2
      have H0 : Hid (IsC (17592186043905) (-((a) + (b))) u17 w1) := Lib.hid (by first | exact k0 | simpa using k0)
      have H1 : Hid (IsC (17592186043905) ((-(a)) + (-(b))) u22 w1) := Lib.hid (by first | exact k1 | simpa using k1)
      clear k0 k1
      go_wp2_with fail
      refine (same_z (17592186043905) (17592186043905) (-((a) + (b))) ((-(a)) + (-(b))) _ _ _ (H0.out.z) (H1.out.z) (by omega) (by omega)).mono ?_
      rintro e w2 ⟨he2, x, rfl, hx⟩
      obtain rfl : x = .bool true := hx.trans (by congr 1; exact decide_eq_true (by omega))
      go_wp2_with fail
      exact ⟨rfl, he2, rfl⟩
    · obtain ⟨k0, k1⟩ := hk
      obtain rfl : u13 = .bool true := k0
      obtain rfl : u23 = .bool true := k1
      go_wp2_with fail
      exact ⟨rfl, Ext.refl _, by show (_ : Value) = _; (first | rfl | simp); try rfl⟩
  case last =>
    intro w1 he u0 h0 u1 h1 u2 h2 u3 h3 u4 h4 u5 h5 u6 h6 u7 h7 u8 h8 u9 h9 u10 h10 u11 h11 u12 h12 u13 h13 u14 h14 u15 h15 u16 h16 u17 h17 u18 h18 u19 h19 u20 h20 u21 h21 u22 h22 u23 h23 u24 h24
    obtain rfl : u24 = .bool true := h24
    clear h0 h1 h2 h3 h4 h5 h6 h7 h8 h9 h10 h11 h12 h13 h14 h15 h16 h17 h18 h19 h20 h21 h22 h23
    simp only [LastD, Act.put, List.setIfInBounds_toArray, List.set_cons_succ, List.set_cons_zero]
    have HE := Lib.hid (((Ext.alloc _ _).trans (Ext.alloc _ _)).trans he)
    clear he
    go_wp2_with fail
    go_ret
    exact ⟨HE.out, rfl⟩

set_option maxHeartbeats 1000000 in
theorem fnCmpDifference_walk (n0 : Bool) (v0 : Value) (ws0 : List Nat) (n1 : Bool) (v1 : Value) (ws1 : List Nat) (w : World) (hr0 : Rd .u64 w v0 ws0) (hl0 : ws0.length ≤ 17592186043904) (hr1 : Rd .u64 w v1 ws1) (hl1 : ws1.length ≤ 17592186043904)  :
    Calls Try.prog 8 #[.agg #[.bool n0, v0], .agg #[.bool n1, v1]] w (ValR (.bool true) w) := by
  obtain ⟨a0, c0, rfl⟩ := hr0.form
  have hz0 : IsZ 17592186043904 (ival n0 ws0) (.agg #[.bool n0, .slice a0 ws0.length c0]) w := ⟨n0, _, ws0, rfl, hr0, hl0, rfl⟩
  generalize hg0 : ival n0 ws0 = a at hz0
  have HZ0 := Lib.hid hz0
  have HG0 := Lib.hid hg0
  clear hz0 hg0 hr0
  obtain ⟨a1, c1, rfl⟩ := hr1.form
  have hz1 : IsZ 17592186043904 (ival n1 ws1) (.agg #[.bool n1, .slice a1 ws1.length c1]) w := ⟨n1, _, ws1, rfl, hr1, hl1, rfl⟩
  generalize hg1 : ival n1 ws1 = b at hz1
  have HZ1 := Lib.hid hz1
  have HG1 := Lib.hid hg1
  clear hz1 hg1 hr1
  go_enter Try.func8, Try.ntmps8
  go_wp2_with fail
  refine wp_region_D preExt mixed [IsZ (17592186043904) (a), IsZ (17592186043904) (b), Is (.int .i64 (cmpZ (a) (b))), IsZ (17592186043904) (a), IsZ (17592186043904) (b), IsC (17592186043905) ((a) - (b)), Is (.int .i64 (cmpZ (a) (b))), Is (.bool true), Is (.bool true), IsZ (17592186043904) (a), IsZ (17592186043904) (b), Is (.int .i64 (cmpZ (a) (b))), Is (.bool (decide (a = b))), IsZ (17592186043904) (a), IsZ (17592186043904) (b), Is (.bool (decide (a = b))), Is (.bool true), Is (.bool true)] (by kernel_rfl) ?mono rfl ?steps ?last
  case mono =>
    simp only [List.forall_mem_cons, List.not_mem_nil, false_implies, implies_true, and_true]
    refine ⟨?_, ?_, ?_, ?_, ?_, ?_, ?_, ?_, ?_, ?_, ?_, ?_, ?_, ?_, ?_, ?_, ?_, ?_⟩
    all_goals first | exact fun _ _ _ _ q => q | exact fun _ _ _ he q => q.ext he
  case steps =>
    refine ⟨?_, ?_, ?_, ?_, ?_, ?_, ?_, ?_, ?_, ?_, ?_, ?_, ?_, ?_, ?_, ?_, ?_, ?_, trivial⟩
    all_goals
      intro u0 u1 u2 u3 u4 u5 u6 u7 u8 u9 u10 u11 u12 u13 u14 u15 u16 u17 u18 w1 he hk
      simp [KnownD, Oper.looksAt, Op.operands, Call.operands, List.findIdx?_cons, Act.put] at hk
      simp only [Act.put, List.setIfInBounds_toArray, List.set_cons_succ, List.set_cons_zero]
    · have hb := he.block ((Ext.alloc _ _).block (heap_alloc_new _ _))
      have hc0 := blk_cell hb 0
      have hc1 := blk_cell hb 1
      simp at hc0 hc1
      clear hb
      go_wp2_with fail
      exact ⟨rfl, Ext.refl _, HZ0.out.ext (((Ext.alloc _ _).trans (Ext.alloc _ _)).trans he)⟩
    · have hb := he.block (heap_second _ _ _)
      have hc0 := blk_cell hb 0
      have hc1 := blk_cell hb 1
      simp at hc0 hc1
      clear hb
      go_wp2_with fail
      exact ⟨rfl, Ext.refl _, HZ1.out.ext (((Ext.alloc _ _).trans (Ext.alloc _ _)).trans he)⟩
    · obtain ⟨k0, k1⟩ := hk
      have H0 := Lib.hid k0
      have H1 := Lib.hid k1
      clear k0 k1
      go_wp2_with fail
      refine (compare_z (17592186043904) (17592186043904) (a) (b) _ _ _ (H0.out) (H1.out) (by omega) (by omega)).mono ?_
      rintro e w2 ⟨he2, x, rfl, hx⟩
      obtain rfl : x = .int .i64 (cmpZ (a) (b)) := hx
      go_wp2_with fail
      exact ⟨rfl, he2, rfl⟩
    · have hb := he.block ((Ext.alloc _ _).block (heap_alloc_new _ _))
      have hc0 := blk_cell hb 0
      have hc1 := blk_cell hb 1
      simp at hc0 hc1
      clear hb
      go_wp2_with fail
      exact ⟨rfl, Ext.refl _, HZ0.out.ext (((Ext.alloc _ _).trans (Ext.alloc _ _)).trans he)⟩
    · have hb := he.block (heap_second _ _ _)
      have hc0 := blk_cell hb 0
      have hc1 := blk_cell hb 1
      simp at hc0 hc1
      clear hb
      go_wp2_with fail
      exact ⟨rfl, Ext.refl _, HZ1.out.ext (((Ext.alloc _ _).trans (Ext.alloc _ _)).trans he)⟩
    · obtain ⟨k0, k1⟩ := hk
      have H0 := Lib.hid k0
      have H1 := Lib.hid k1
      clear k0 k1
      go_wp2_with fail
      refine (sub_z (17592186043904) (a) (b) _ _ _ ((H0.out).mono (by omega)) ((H1.out).mono (by omega)) (by omega)).mono ?_
      rintro e w2 ⟨he2, x, rfl, hx⟩
      have HX := Lib.hid hx
      clear hx
      go_wp2_with fail
      exact ⟨rfl, he2, HX.out⟩
    · have k0 := hk
      have H0 : Hid (IsC (17592186043905) ((a) - (b)) u5 w1) := Lib.hid (by first | exact k0 | simpa using k0)
      clear k0
      go_wp2_with fail
      refine (sign_z (17592186043905) ((a) - (b)) _ _ (H0.out.z) (by omega)).mono ?_
      rintro e w2 ⟨he2, x, rfl, hx⟩
      obtain rfl : x = .int .i64 (cmpZ (a) (b)) := hx.trans (by rw [cmpZ_sub])
      go_wp2_with fail
      exact ⟨rfl, he2, rfl⟩
    · obtain ⟨k0, k1⟩ := hk
      obtain rfl : u2 = .int .i64 (cmpZ (a) (b)) := k0
      obtain rfl : u6 = .int .i64 (cmpZ (a) (b)) := k1
      go_wp2_with fail
      exact ⟨rfl, Ext.refl _, by show (_ : Value) = _; (simp); try rfl⟩
    · have k0 := hk
      obtain rfl : u7 = .bool true := k0
      go_wp2_with fail
      exact ⟨rfl, Ext.refl _, by show (_ : Value) = _; (first | rfl | simp); try rfl⟩
    · have k0 := hk
      obtain rfl : u8 = .bool true := k0
      have hb := he.block ((Ext.alloc _ _).block (heap_alloc_new _ _))
      have hc0 := blk_cell hb 0
      have hc1 := blk_cell hb 1
      simp at hc0 hc1
      clear hb
      go_wp2_with fail
      exact ⟨rfl, Ext.refl _, HZ0.out.ext (((Ext.alloc _ _).trans (Ext.alloc _ _)).trans he)⟩
    · have k0 := hk
      obtain rfl : u8 = .bool true := k0
      have hb := he.block (heap_second _ _ _)
      have hc0 := blk_cell hb 0
      have hc1 := blk_cell hb 1
      simp at hc0 hc1
      clear hb
      go_wp2_with fail
      exact ⟨rfl, Ext.refl _, HZ1.out.ext (((Ext.alloc _ _).trans (Ext.alloc _ _)).trans he)⟩
    · obtain ⟨k0, k1, k2⟩ := hk
      obtain rfl : u8 = .bool true := k2
      have H0 := Lib.hid k0
      have H1 := Lib.hid k1
      clear k0 k1
      go_wp2_with fail
      refine (compare_z (17592186043904) (17592186043904) (a) (b) _ _ _ (H0.out) (H1.out) (by omega) (by omega)).mono ?_
      rintro e w2 ⟨he2, x, rfl, hx⟩
      obtain rfl : x = .int .i64 (cmpZ (a) (b)) := hx
      go_wp2_with fail
      exact ⟨rfl, he2, rfl⟩
    · obtain ⟨k0, k1⟩ := hk
      obtain rfl : u11 = .int .i64 (cmpZ (a) (b)) := k0
      obtain rfl : u8 = .bool true := k1
      go_wp2_with fail
      exact ⟨rfl, Ext.refl _, by show (_ : Value) = _; (simp only [cmpZ_zero]); try rfl⟩
    · have k0 := hk
      obtain rfl : u8 = .bool true := k0
      have hb := he.block ((Ext.alloc _ _).block (heap_alloc_new _ _))
      have hc0 := blk_cell hb 0
      have hc1 := blk_cell hb 1
      simp at hc0 hc1
      clear hb
      go_wp2_with fail
      exact ⟨rfl, Ext.refl _, HZ0.out.ext (((Ext.alloc _ _).trans (Ext.alloc _ _)).trans he)⟩
    · have k0 := hk
      obtain rfl : u8 = .bool true := k0
      have hb := he.block (heap_second _ _ _)
      have hc0 := blk_cell hb 0
      have hc1 := blk_cell hb 1
      simp at hc0 hc1
      clear hb
      go_wp2_with fail
      exact ⟨rfl, Ext.refl _, HZ1.out.ext (((Ext.alloc _ _).trans (Ext.alloc _ _)).trans he)⟩
    · obtain ⟨k0, k1, k2⟩ := hk
      obtain rfl : u8 = .bool true := k2
      have H0 := Lib.hid k0
      have H1 := Lib.hid k1
      clear k0 k1
      go_wp2_with fail
      refine (same_z (17592186043904) (17592186043904) (a) (b) _ _ _ (H0.out) (H1.out) (by omega) (by omega)).mono ?_
      rintro e w2 ⟨he2, x, rfl, hx⟩
      obtain rfl : x = .bool (decide (a = b)) := hx
      go_wp2_with fail
      exact ⟨rfl, he2, rfl⟩
    · obtain ⟨k0, k1, k2⟩ := hk
      obtain rfl : u12 = .bool (decide (a = b)) := k0
      obtain rfl : u15 = .bool (decide (a = b)) := k1
      obtain rfl : u8 = .bool true := k2
      go_wp2_with fail
      exact ⟨rfl, Ext.refl _, by show (_ : Value) = _; (simp); try rfl⟩
    · obtain ⟨k0, k1⟩ := hk
      obtain rfl : u8 = .bool true := k0
      obtain rfl : u16 = .bool true := k1
      go_wp2_with fail
      exact ⟨rfl, Ext.refl _, by show (_ : Value) = _; (first | rfl | simp); try rfl⟩
  case last =>
    intro w1 he u0 h0 u1 h1 u2 h2 u3 h3 u4 h4 u5 h5 u6 h6 u7 h7 u8 h8 u9 h9 u10 h10 u11 h11 u12 h12 u13 h13 u14 h14 u15 h15 u16 h16 u17 h17
    obtain rfl : u17 = .bool true := h17
    clear h0 h1 h2 h3 h4 h5 h6 h7 h8 h9 h10 h11 h12 h13 h14 h15 h16
    simp only [LastD, Act.put, List.setIfInBounds_toArray, List.set_cons_succ, List.set_cons_zero]
    have HE := Lib.hid (((Ext.alloc _ _).trans (Ext.alloc _ _)).trans he)
    clear he
    go_wp2_with fail
    go_ret
    exact ⟨HE.out, rfl⟩

set_option maxHeartbeats 1000000 in
theorem fnCmpSums_walk (n0 : Bool) (v0 : Value) (ws0 : List Nat) (n1 : Bool) (v1 : Value) (ws1 : List Nat) (n2 : Bool) (v2 : Value) (ws2 : List Nat) (w : World) (hr0 : Rd .u64 w v0 ws0) (hl0 : ws0.length ≤ 17592186043904) (hr1 : Rd .u64 w v1 ws1) (hl1 : ws1.length ≤ 17592186043904) (hr2 : Rd .u64 w v2 ws2) (hl2 : ws2.length ≤ 17592186043904)  :
    Calls Try.prog 10 #[.agg #[.bool n0, v0], .agg #[.bool n1, v1], .agg #[.bool n2, v2]] w (ValR (.bool true) w) := by
  obtain ⟨a0, c0, rfl⟩ := hr0.form
  have hz0 : IsZ 17592186043904 (ival n0 ws0) (.agg #[.bool n0, .slice a0 ws0.length c0]) w := ⟨n0, _, ws0, rfl, hr0, hl0, rfl⟩
  generalize hg0 : ival n0 ws0 = a at hz0
  have HZ0 := Lib.hid hz0
  have HG0 := Lib.hid hg0
  clear hz0 hg0 hr0
  obtain ⟨a1, c1, rfl⟩ := hr1.form
  have hz1 : IsZ 17592186043904 (ival n1 ws1) (.agg #[.bool n1, .slice a1 ws1.length c1]) w := ⟨n1, _, ws1, rfl, hr1, hl1, rfl⟩
  generalize hg1 : ival n1 ws1 = b at hz1
  have HZ1 := Lib.hid hz1
  have HG1 := Lib.hid hg1
  clear hz1 hg1 hr1
  obtain ⟨a2, c2, rfl⟩ := hr2.form
  have hz2 : IsZ 17592186043904 (ival n2 ws2) (.agg #[.bool n2, .slice a2 ws2.length c2]) w := ⟨n2, _, ws2, rfl, hr2, hl2, rfl⟩
  generalize hg2 : ival n2 ws2 = c at hz2
  have HZ2 := Lib.hid hz2
  have HG2 := Lib.hid hg2
  clear hz2 hg2 hr2
  go_enter Try.func10, Try.ntmps10
  go_wp2_with fail
  refine wp_region_D preExt mixed [IsZ (17592186043904) (a), IsZ (17592186043904) (c), IsC (17592186043905) ((a) + (c)), IsZ (17592186043904) (b), IsZ (17592186043904) (c), IsC (17592186043905) ((b) + (c)), Is (.int .i64 (cmpZ (a) (b))), IsZ (17592186043904) (a), IsZ (17592186043904) (b), Is (.int .i64 (cmpZ (a) (b))), Is (.bool true), Is (.bool true), IsZ (17592186043904) (a), IsC (17592186043904) (-(a)), IsZ (17592186043904) (b), IsC (17592186043904) (-(b)), Is (.int .i64 (cmpZ (b) (a))), IsZ (17592186043904) (b), IsZ (17592186043904) (a), Is (.int .i64 (cmpZ (b) (a))), Is (.bool true), Is (.bool true), Is (.bool true), IsZ (17592186043904) (a), IsZ (17592186043904) (b), Is (.int .i64 (cmpZ (a) (b))), Is (.bool (decide (a = b))), IsZ (17592186043904) (a), IsZ (17592186043904) (b), Is (.bool (decide (a = b))), Is (.bool true), Is (.bool true)] (by kernel_rfl) ?mono rfl ?steps ?last
  case mono =>
    simp only [List.forall_mem_cons, List.not_mem_nil, false_implies, implies_true, and_true]
    refine ⟨?_, ?_, ?_, ?_, ?_, ?_, ?_, ?_, ?_, ?_, ?_, ?_, ?_, ?_, ?_, ?_, ?_, ?_, ?_, ?_, ?_, ?_, ?_, ?_, ?_, ?_, ?_, ?_, ?_, ?_, ?_, ?_⟩
    all_goals first | exact fun _ _ _ _ q => q | exact fun _ _ _ he q => q.ext he
  case steps =>
    refine ⟨?_, ?_, ?_, ?_, ?_, ?_, ?_, ?_, ?_, ?_, ?_, ?_, ?_, ?_, ?_, ?_, ?_, ?_, ?_, ?_, ?_, ?_, ?_, ?_, ?_, ?_, ?_, ?_, ?_, ?_, ?_, ?_, trivial⟩
    all_goals
      intro u0 u1 u2 u3 u4 u5 u6 u7 u8 u9 u10 u11 u12 u13 u14 u15 u16 u17 u18 u19 u20 u21 u22 u23 u24 u25 u26 u27 u28 u29 u30 u31 u32 w1 he hk
      simp [KnownD, Oper.looksAt, Op.operands, Call.operands, List.findIdx?_cons, Act.put] at hk
      simp only [Act.put, List.setIfInBounds_toArray, List.set_cons_succ, List.set_cons_zero]
    · have hb := he.block ((Ext.alloc _ _).block ((Ext.alloc _ _).block (heap_alloc_new _ _)))
      have hc0 := blk_cell hb 0
      have hc1 := blk_cell hb 1
      simp at hc0 hc1
      clear hb
      go_wp2_with fail
      exact ⟨rfl, Ext.refl _, HZ0.out.ext ((((Ext.alloc _ _).trans (Ext.alloc _ _)).trans (Ext.alloc _ _)).trans he)⟩
    · have hb := he.block (heap_third' _ _ _ _)
      have hc0 := blk_cell hb 0
      have hc1 := blk_cell hb 1
      simp at hc0 hc1
      clear hb
      go_wp2_with fail
      exact ⟨rfl, Ext.refl _, HZ2.out.ext ((((Ext.alloc _ _).trans (Ext.alloc _ _)).trans (Ext.alloc _ _)).trans he)⟩
    · obtain ⟨k0, k1⟩ := hk
      have H0 := Lib.hid k0
      have H1 := Lib.hid k1
      clear k0 k1
      go_wp2_with fail
      refine (add_z (17592186043904) (a) (c) _ _ _ ((H0.out).mono (by omega)) ((H1.out).mono (by omega)) (by omega)).mono ?_
      rintro e w2 ⟨he2, x, rfl, hx⟩
      have HX := Lib.hid hx
      clear hx
      go_wp2_with fail
      exact ⟨rfl, he2, HX.out⟩
    · have hb := he.block ((Ext.alloc _ _).block (heap_second _ _ _))
      have hc0 := blk_cell hb 0
      have hc1 := blk_cell hb 1
      simp at hc0 hc1
      clear hb
      go_wp2_with fail
      exact ⟨rfl, Ext.refl _, HZ1.out.ext ((((Ext.alloc _ _).trans (Ext.alloc _ _)).trans (Ext.alloc _ _)).trans he)⟩
    · have hb := he.block (heap_third' _ _ _ _)
      have hc0 := blk_cell hb 0
      have hc1 := blk_cell hb 1
      simp at hc0 hc1
      clear hb
      go_wp2_with fail
      exact ⟨rfl, Ext.refl _, HZ2.out.ext ((((Ext.alloc _ _).trans (Ext.alloc _ _)).trans (Ext.alloc _ _)).trans he)⟩
    · obtain ⟨k0, k1⟩ := hk
      have H0 := Lib.hid k0
      have H1 := Lib.hid k1
      clear k0 k1
      go_wp2_with fail
      refine (add_z (17592186043904) (b) (c) _ _ _ ((H0.out).mono (by omega)) ((H1.out).mono (by omega)) (by omega)).mono ?_
      rintro e w2 ⟨he2, x, rfl, hx⟩
      have HX := Lib.hid hx
      clear hx
      go_wp2_with fail
      exact ⟨rfl, he2, HX.out⟩
    · obtain ⟨k0, k1⟩ := hk
      have H0 : Hid (IsC (17592186043905) ((a) + (c)) u2 w1) := Lib.hid (by first | exact k0 | simpa using k0)
      have H1 : Hid (IsC (17592186043905) ((b) + (c)) u5 w1) := Lib.hid (by first | exact k1 | simpa using k1)
      clear k0 k1
      go_wp2_with fail
      refine (compare_z (17592186043905) (17592186043905) ((a) + (c)) ((b) + (c)) _ _ _ (H0.out.z) (H1.out.z) (by omega) (by omega)).mono ?_
      rintro e w2 ⟨he2, x, rfl, hx⟩
      obtain rfl : x = .int .i64 (cmpZ (a) (b)) := hx.trans (by rw [cmpZ_add])
      go_wp2_with fail
      exact ⟨rfl, he2, rfl⟩
    · have hb := he.block ((Ext.alloc _ _).block ((Ext.alloc _ _).block (heap_alloc_new _ _)))
      have hc0 := blk_cell hb 0
      have hc1 := blk_cell hb 1
      simp at hc0 hc1
      clear hb
      go_wp2_with fail
      exact ⟨rfl, Ext.refl _, HZ0.out.ext ((((Ext.alloc _ _).trans (Ext.alloc _ _)).trans (Ext.alloc _ _)).trans he)⟩
    · have hb := he.block ((Ext.alloc _ _).block (heap_second _ _ _))
      have hc0 := blk_cell hb 0
      have hc1 := blk_cell hb 1
      simp at hc0 hc1
      clear hb
      go_wp2_with fail
      exact ⟨rfl, Ext.refl _, HZ1.out.ext ((((Ext.alloc _ _).trans (Ext.alloc _ _)).trans (Ext.alloc _ _)).trans he)⟩
    · obtain ⟨k0, k1⟩ := hk
      have H0 := Lib.hid k0
      have H1 := Lib.hid k1
      clear k0 k1
      go_wp2_with fail
      refine (compare_z (17592186043904) (17592186043904) (a) (b) _ _ _ (H0.out) (H1.out) (by omega) (by omega)).mono ?_
      rintro e w2 ⟨he2, x, rfl, hx⟩
      obtain rfl : x = .int .i64 (cmpZ (a) (b)) := hx
      go_wp2_with fail
      exact ⟨rfl, he2, rfl⟩
    · obtain ⟨k0, k1⟩ := hk
      obtain rfl : u6 = .int .i64 (cmpZ (a) (b)) := k0
      obtain rfl : u9 = .int .i64 (cmpZ (a) (b)) := k1
      go_wp2_with fail
      exact ⟨rfl, Ext.refl _, by show (_ : Value) = _; (simp); try rfl⟩
    · have k0 := hk
      obtain rfl : u10 = .bool true := k0
      go_wp2_with fail
      exact ⟨rfl, Ext.refl _, by show (_ : Value) = _; (first | rfl | simp); try rfl⟩
    · have k0 := hk
      obtain rfl : u11 = .bool true := k0
      have hb := he.block ((Ext.alloc _ _).block ((Ext.alloc _ _).block (heap_alloc_new _ _)))
      have hc0 := blk_cell hb 0
      have hc1 := blk_cell hb 1
      simp at hc0 hc1
      clear hb
      go_wp2_with fail
      exact ⟨rfl, Ext.refl _, HZ0.out.ext ((((Ext.alloc _ _).trans (Ext.alloc _ _)).trans (Ext.alloc _ _)).trans he)⟩
    · obtain ⟨k0, k1⟩ := hk
      obtain rfl : u11 = .bool true := k1
      have H0 := Lib.hid k0
      clear k0
      go_wp2_with fail
      refine (neg_z (17592186043904) (a) _ _ (H0.out) (by omega)).mono ?_
      rintro e w2 ⟨he2, x, rfl, hx⟩
      have HX := Lib.hid hx
      clear hx
      go_wp2_with fail
      exact ⟨rfl, he2, HX.out⟩
    · have k0 := hk
      obtain rfl : u11 = .bool true := k0
      have hb := he.block ((Ext.alloc _ _).block (heap_second _ _ _))
      have hc0 := blk_cell hb 0
      have hc1 := blk_cell hb 1
      simp at hc0 hc1
      clear hb
      go_wp2_with fail
      exact ⟨rfl, Ext.refl _, HZ1.out.ext ((((Ext.alloc _ _).trans (Ext.alloc _ _)).trans (Ext.alloc _ _)).trans he)⟩
    · obtain ⟨k0, k1⟩ := hk
      obtain rfl : u11 = .bool true := k1
      have H0 := Lib.hid k0
      clear k0
      go_wp2_with fail
      refine (neg_z (17592186043904) (b) _ _ (H0.out) (by omega)).mono ?_
      rintro e w2 ⟨he2, x, rfl, hx⟩
      have HX := Lib.hid hx
      clear hx
      go_wp2_with fail
      exact ⟨rfl, he2, HX.out⟩
    · obtain ⟨k0, k1, k2⟩ := hk
      obtain rfl : u11 = .bool true := k2
      have H0 : Hid (IsC (17592186043904) (-(a)) u13 w1) := Lib.hid (by first | exact k0 | simpa using k0)
      have H1 : Hid (IsC (17592186043904) (-(b)) u15 w1) := Lib.hid (by first | exact k1 | simpa using k1)
      clear k0 k1
      go_wp2_with fail
      refine (compare_z (17592186043904) (17592186043904) (-(a)) (-(b)) _ _ _ (H0.out.z) (H1.out.z) (by omega) (by omega)).mono ?_
      rintro e w2 ⟨he2, x, rfl, hx⟩
      obtain rfl : x = .int .i64 (cmpZ (b) (a)) := hx.trans (by rw [cmpZ_negs])
      go_wp2_with fail
      exact ⟨rfl, he2, rfl⟩
    · have k0 := hk
      obtain rfl : u11 = .bool true := k0
      have hb := he.block ((Ext.alloc _ _).block (heap_second _ _ _))
      have hc0 := blk_cell hb 0
      have hc1 := blk_cell hb 1
      simp at hc0 hc1
      clear hb
      go_wp2_with fail
      exact ⟨rfl, Ext.refl _, HZ1.out.ext ((((Ext.alloc _ _).trans (Ext.alloc _ _)).trans (Ext.alloc _ _)).trans he)⟩
    · have k0 := hk
      obtain rfl : u11 = .bool true := k0
      have hb := he.block ((Ext.alloc _ _).block ((Ext.alloc _ _).block (heap_alloc_new _ _)))
      have hc0 := blk_cell hb 0
      have hc1 := blk_cell hb 1
      simp at hc0 hc1
      clear hb
      go_wp2_with fail
      exact ⟨rfl, Ext.refl _, HZ0.out.ext ((((Ext.alloc _ _).trans (Ext.alloc _ _)).trans (Ext.alloc _ _)).trans he)⟩
    · obtain ⟨k0, k1, k2⟩ := hk
      obtain rfl : u11 = .bool true := k2
      have H0 := Lib.hid k0
      have H1 := Lib.hid k1
      clear k0 k1
      go_wp2_with fail
      refine (compare_z (17592186043904) (17592186043904) (b) (a) _ _ _ (H0.out) (H1.out) (by omega) (by omega)).mono ?_
      rintro e w2 ⟨he2, x, rfl, hx⟩
      obtain rfl : x = .int .i64 (cmpZ (b) (a)) := hx
      go_wp2_with fail
      exact ⟨rfl, he2, rfl⟩
    · obtain ⟨k0, k1, k2⟩ := hk
      obtain rfl : u16 = .int .i64 (cmpZ (b) (a)) := k0
      obtain rfl : u19 = .int .i64 (cmpZ (b) (a)) := k1
      obtain rfl : u11 = .bool true := k2
      go_wp2_with fail
      exact ⟨rfl, Ext.refl _, by show (_ : Value) = _; (simp); try rfl⟩
    · obtain ⟨k0, k1⟩ := hk
      obtain rfl : u11 = .bool true := k0
      obtain rfl : u20 = .bool true := k1
      go_wp2_with fail
      exact ⟨rfl, Ext.refl _, by show (_ : Value) = _; (first | rfl | simp); try rfl⟩
    · have k0 := hk
      obtain rfl : u21 = .bool true := k0
      go_wp2_with fail
      exact ⟨rfl, Ext.refl _, by show (_ : Value) = _; (first | rfl | simp); try rfl⟩
    · have k0 := hk
      obtain rfl : u22 = .bool true := k0
      have hb := he.block ((Ext.alloc _ _).block ((Ext.alloc _ _).block (heap_alloc_new _ _)))
      have hc0 := blk_cell hb 0
      have hc1 := blk_cell hb 1
      simp at hc0 hc1
      clear hb
      go_wp2_with fail
      exact ⟨rfl, Ext.refl _, HZ0.out.ext ((((Ext.alloc _ _).trans (Ext.alloc _ _)).trans (Ext.alloc _ _)).trans he)⟩
    · have k0 := hk
      obtain rfl : u22 = .bool true := k0
      have hb := he.block ((Ext.alloc _ _).block (heap_second _ _ _))
      have hc0 := blk_cell hb 0
      have hc1 := blk_cell hb 1
      simp at hc0 hc1
      clear hb
      go_wp2_with fail
      exact ⟨rfl, Ext.refl _, HZ1.out.ext ((((Ext.alloc _ _).trans (Ext.alloc _ _)).trans (Ext.alloc _ _)).trans he)⟩
    · obtain ⟨k0, k1, k2⟩ := hk
      obtain rfl : u22 = .bool true := k2
      have H0 := Lib.hid k0
      have H1 := Lib.hid k1
      clear k0 k1
      go_wp2_with fail
      refine (compare_z (17592186043904) (17592186043904) (a) (b) _ _ _ (H0.out) (H1.out) (by omega) (by omega)).mono ?_
      rintro e w2 ⟨he2, x, rfl, hx⟩
      obtain rfl : x = .int .i64 (cmpZ (a) (b)) := hx
      go_wp2_with fail
      exact ⟨rfl, he2, rfl⟩
    · obtain ⟨k0, k1⟩ := hk
      obtain rfl : u25 = .int .i64 (cmpZ (a) (b)) := k0
      obtain rfl : u22 = .bool true := k1
      go_wp2_with fail
      exact ⟨rfl, Ext.refl _, by show (_ : Value) = _; (simp only [cmpZ_zero]); try rfl⟩
    · have k0 := hk
      obtain rfl : u22 = .bool true := k0
      have hb := he.block ((Ext.alloc _ _).block ((Ext.alloc _ _).block (heap_alloc_new _ _)))
      have hc0 := blk_cell hb 0
      have hc1 := blk_cell hb 1
      simp at hc0 hc1
      clear hb
      go_wp2_with fail
      exact ⟨rfl, Ext.refl _, HZ0.out.ext ((((Ext.alloc _ _).trans (Ext.alloc _ _)).trans (Ext.alloc _ _)).trans he)⟩
    · have k0 := hk
      obtain rfl : u22 = .bool true := k0
      have hb := he.block ((Ext.alloc _ _).block (heap_second _ _ _))
      have hc0 := blk_cell hb 0
      have hc1 := blk_cell hb 1
      simp at hc0 hc1
      clear hb
      go_wp2_with fail
      exact ⟨rfl, Ext.refl _, HZ1.out.ext ((((Ext.alloc _ _).trans (Ext.alloc _ _)).trans (Ext.alloc _ _)).trans he)⟩
    · obtain ⟨k0, k1, k2⟩ := hk
      obtain rfl : u22 = .bool true := k2
      have H0 := Lib.hid k0
      have H1 := Lib.hid k1
      clear k0 k1
      go_wp2_with fail
      refine (same_z (17592186043904) (17592186043904) (a) (b) _ _ _ (H0.out) (H1.out) (by omega) (by omega)).mono ?_
      rintro e w2 ⟨he2, x, rfl, hx⟩
      obtain rfl : x = .bool (decide (a = b)) := hx
      go_wp2_with fail
      exact ⟨rfl, he2, rfl⟩
    · obtain ⟨k0, k1, k2⟩ := hk
      obtain rfl : u26 = .bool (decide (a = b)) := k0
      obtain rfl : u29 = .bool (decide (a = b)) := k1
      obtain rfl : u22 = .bool true := k2
      go_wp2_with fail
      exact ⟨rfl, Ext.refl _, by show (_ : Value) = _; (simp); try rfl⟩
    · obtain ⟨k0, k1⟩ := hk
      obtain rfl : u22 = .bool true := k0
      obtain rfl : u30 = .bool true := k1
      go_wp2_with fail
      exact ⟨rfl, Ext.refl _, by show (_ : Value) = _; (first | rfl | simp); try rfl⟩
  case last =>
    intro w1 he u0 h0 u1 h1 u2 h2 u3 h3 u4 h4 u5 h5 u6 h6 u7 h7 u8 h8 u9 h9 u10 h10 u11 h11 u12 h12 u13 h13 u14 h14 u15 h15 u16 h16 u17 h17 u18 h18 u19 h19 u20 h20 u21 h21 u22 h22 u23 h23 u24 h24 u25 h25 u26 h26 u27 h27 u28 h28 u29 h29 u30 h30 u31 h31
    obtain rfl : u31 = .bool true := h31
    clear h0 h1 h2 h3 h4 h5 h6 h7 h8 h9 h10 h11 h12 h13 h14 h15 h16 h17 h18 h19 h20 h21 h22 h23 h24 h25 h26 h27 h28 h29 h30
    simp only [LastD, Act.put, List.setIfInBounds_toArray, List.set_cons_succ, List.set_cons_zero]
    have HE := Lib.hid ((((Ext.alloc _ _).trans (Ext.alloc _ _)).trans (Ext.alloc _ _)).trans he)
    clear he
    go_wp2_with fail
    go_ret
    exact ⟨HE.out, rfl⟩

set_option maxHeartbeats 1000000 in
theorem fnTriangle_walk_1 (n0 : Bool) (v0 : Value) (ws0 : List Nat) (n1 : Bool) (v1 : Value) (ws1 : List Nat) (w : World) (hr0 : Rd .u64 w v0 ws0) (hl0 : ws0.length ≤ 17592186043904) (hr1 : Rd .u64 w v1 ws1) (hl1 : ws1.length ≤ 17592186043904) (hc : (ival n0 ws0) = 0) :
    Calls Try.prog 14 #[.agg #[.bool n0, v0], .agg #[.bool n1, v1]] w (ValR (.bool true) w) := by
  obtain ⟨a0, c0, rfl⟩ := hr0.form
  have hz0 : IsZ 17592186043904 (ival n0 ws0) (.agg #[.bool n0, .slice a0 ws0.length c0]) w := ⟨n0, _, ws0, rfl, hr0, hl0, rfl⟩
  generalize hg0 : ival n0 ws0 = a at hz0
  have HZ0 := Lib.hid hz0
  have HG0 := Lib.hid hg0
  clear hz0 hg0 hr0
  obtain ⟨a1, c1, rfl⟩ := hr1.form
  have hz1 : IsZ 17592186043904 (ival n1 ws1) (.agg #[.bool n1, .slice a1 ws1.length c1]) w := ⟨n1, _, ws1, rfl, hr1, hl1, rfl⟩
  generalize hg1 : ival n1 ws1 = b at hz1
  have HZ1 := Lib.hid hz1
  have HG1 := Lib.hid hg1
  clear hz1 hg1 hr1
  have HC : Hid (a = 0) := by simp only [HG0.out, HG1.out] at hc; exact hc
  clear hc
  go_enter Try.func14, Try.ntmps14
  go_wp2_with fail
  refine wp_region_D preExt mixed [IsZ (17592186043904) (a), IsZ (17592186043904) (b), IsC (17592186043905) ((a) + (b)), IsC (17592186043905) ((((a) + (b)).natAbs : Int)), IsZ (17592186043904) (a), IsC (17592186043904) (((a).natAbs : Int)), IsZ (17592186043904) (b), IsC (17592186043904) (((b).natAbs : Int)), IsC (17592186043905) ((((a).natAbs : Int)) + (((b).natAbs : Int))), Is (.int .i64 (cmpZ ((((a) + (b)).natAbs : Int)) ((((a).natAbs : Int)) + (((b).natAbs : Int))))), Is (.bool true), Is (.bool true), IsZ (17592186043904) (a), Is (.bool true), Is (.bool true), Any, Any, Any, Any, Is (.bool true), Is (.bool true)] (by kernel_rfl) ?mono rfl ?steps ?last
  case mono =>
    simp only [List.forall_mem_cons, List.not_mem_nil, false_implies, implies_true, and_true]
    refine ⟨?_, ?_, ?_, ?_, ?_, ?_, ?_, ?_, ?_, ?_, ?_, ?_, ?_, ?_, ?_, ?_, ?_, ?_, ?_, ?_, ?_⟩
    all_goals first | exact fun _ _ _ _ q => q | exact fun _ _ _ he q => q.ext he
  case steps =>
    refine ⟨?_, ?_, ?_, ?_, ?_, ?_, ?_, ?_, ?_, ?_, ?_, ?_, ?_, ?_, ?_, ?_, ?_, ?_, ?_, ?_, ?_, trivial⟩
    all_goals
      intro u0 u1 u2 u3 u4 u5 u6 u7 u8 u9 u10 u11 u12 u13 u14 u15 u16 u17 u18 u19 u20 u21 w1 he hk
      simp [KnownD, Oper.looksAt, Op.operands, Call.operands, List.findIdx?_cons, Act.put] at hk
      simp only [Act.put, List.setIfInBounds_toArray, List.set_cons_succ, List.set_cons_zero]
    · have hb := he.block ((Ext.alloc _ _).block (heap_alloc_new _ _))
      have hc0 := blk_cell hb 0
      have hc1 := blk_cell hb 1
      simp at hc0 hc1
      clear hb
      go_wp2_with fail
      exact ⟨rfl, Ext.refl _, HZ0.out.ext (((Ext.alloc _ _).trans (Ext.alloc _ _)).trans he)⟩
    · have hb := he.block (heap_second _ _ _)
      have hc0 := blk_cell hb 0
      have hc1 := blk_cell hb 1
      simp at hc0 hc1
      clear hb
      go_wp2_with fail
      exact ⟨rfl, Ext.refl _, HZ1.out.ext (((Ext.alloc _ _).trans (Ext.alloc _ _)).trans he)⟩
    · obtain ⟨k0, k1⟩ := hk
      have H0 := Lib.hid k0
      have H1 := Lib.hid k1
      clear k0 k1
      go_wp2_with fail
      refine (add_z (17592186043904) (a) (b) _ _ _ ((H0.out).mono (by omega)) ((H1.out).mono (by omega)) (by omega)).mono ?_
      rintro e w2 ⟨he2, x, rfl, hx⟩
      have HX := Lib.hid hx
      clear hx
      go_wp2_with fail
      exact ⟨rfl, he2, HX.out⟩
    · have k0 := hk
      have H0 : Hid (IsC (17592186043905) ((a) + (b)) u2 w1) := Lib.hid (by first | exact k0 | simpa using k0)
      clear k0
      go_wp2_with fail
      refine (abs_z (17592186043905) ((a) + (b)) _ _ (H0.out.z) (by omega)).mono ?_
      rintro e w2 ⟨he2, x, rfl, hx⟩
      have HX := Lib.hid hx
      clear hx
      go_wp2_with fail
      exact ⟨rfl, he2, HX.out⟩
    · have hb := he.block ((Ext.alloc _ _).block (heap_alloc_new _ _))
      have hc0 := blk_cell hb 0
      have hc1 := blk_cell hb 1
      simp at hc0 hc1
      clear hb
      go_wp2_with fail
      exact ⟨rfl, Ext.refl _, HZ0.out.ext (((Ext.alloc _ _).trans (Ext.alloc _ _)).trans he)⟩
    · have k0 := hk
      have H0 := Lib.hid k0
      clear k0
      go_wp2_with fail
      refine (abs_z (17592186043904) (a) _ _ (H0.out) (by omega)).mono ?_
      rintro e w2 ⟨he2, x, rfl, hx⟩
      have HX := Lib.hid hx
      clear hx
      go_wp2_with fail
      exact ⟨rfl, he2, HX.out⟩
    · have hb := he.block (heap_second _ _ _)
      have hc0 := blk_cell hb 0
      have hc1 := blk_cell hb 1
      simp at hc0 hc1
      clear hb
      go_wp2_with fail
      exact ⟨rfl, Ext.refl _, HZ1.out.ext (((Ext.alloc _ _).trans (Ext.alloc _ _)).trans he)⟩
    · have k0 := hk
      have H0 := Lib.hid k0
      clear k0
      go_wp2_with fail
      refine (abs_z (17592186043904) (b) _ _ (H0.out) (by omega)).mono ?_
      rintro e w2 ⟨he2, x, rfl, hx⟩
      have HX := Lib.hid hx
      clear hx
      go_wp2_with fail
      exact ⟨rfl, he2, HX.out⟩
    · obtain ⟨k0, k1⟩ := hk
      have H0 : Hid (IsC (17592186043904) (((a).natAbs : Int)) u5 w1) := Lib.hid (by first | exact k0 | simpa using k0)
      have H1 : Hid (IsC (17592186043904) (((b).natAbs : Int)) u7 w1) := Lib.hid (by first | exact k1 | simpa using k1)
      clear k0 k1
      go_wp2_with fail
      refine (add_z (17592186043904) (((a).natAbs : Int)) (((b).natAbs : Int)) _ _ _ ((H0.out.z).mono (by omega)) ((H1.out.z).mono (by omega)) (by omega)).mono ?_
      rintro e w2 ⟨he2, x, rfl, hx⟩
      have HX := Lib.hid hx
      clear hx
      go_wp2_with fail
      exact ⟨rfl, he2, HX.out⟩
    · obtain ⟨k0, k1⟩ := hk
      have H0 : Hid (IsC (17592186043905) ((((a) + (b)).natAbs : Int)) u3 w1) := Lib.hid (by first | exact k0 | simpa using k0)
      have H1 : Hid (IsC (17592186043905) ((((a).natAbs : Int)) + (((b).natAbs : Int))) u8 w1) := Lib.hid (by first | exact k1 | simpa using k1)
      clear k0 k1
      go_wp2_with fail
      refine (compare_z (17592186043905) (17592186043905) ((((a) + (b)).natAbs : Int)) ((((a).natAbs : Int)) + (((b).natAbs : Int))) _ _ _ (H0.out.z) (H1.out.z) (by omega) (by omega)).mono ?_
      rintro e w2 ⟨he2, x, rfl, hx⟩
      obtain rfl : x = .int .i64 (cmpZ ((((a) + (b)).natAbs : Int)) ((((a).natAbs : Int)) + (((b).natAbs : Int)))) := hx
      go_wp2_with fail
      exact ⟨rfl, he2, rfl⟩
    · have k0 := hk
      obtain rfl : u9 = .int .i64 (cmpZ ((((a) + (b)).natAbs : Int)) ((((a).natAbs : Int)) + (((b).natAbs : Int)))) := k0
      go_wp2_with fail
      exact ⟨rfl, Ext.refl _, by show (_ : Value) = _; (simp only [show cmpZ (((a) + (b)).natAbs : Int) (((a).natAbs : Int) + ((b).natAbs : Int)) ≤ 0 from cmpZ_le (by omega), decide_true]); try rfl⟩
    · have k0 := hk
      obtain rfl : u10 = .bool true := k0
      go_wp2_with fail
      exact ⟨rfl, Ext.refl _, by show (_ : Value) = _; (first | rfl | simp); try rfl⟩
    · have k0 := hk
      obtain rfl : u11 = .bool true := k0
      have hb := he.block ((Ext.alloc _ _).block (heap_alloc_new _ _))
      have hc0 := blk_cell hb 0
      have hc1 := blk_cell hb 1
      simp at hc0 hc1
      clear hb
      go_wp2_with fail
      exact ⟨rfl, Ext.refl _, HZ0.out.ext (((Ext.alloc _ _).trans (Ext.alloc _ _)).trans he)⟩
    · obtain ⟨k0, k1⟩ := hk
      obtain rfl : u11 = .bool true := k1
      have H0 := Lib.hid k0
      clear k0
      go_wp2_with fail
      refine (zero_z (17592186043904) (a) _ _ (H0.out) (by omega)).mono ?_
      rintro e w2 ⟨he2, x, rfl, hx⟩
      obtain rfl : x = .bool true := hx.trans (by have := HC.out; simp; omega)
      go_wp2_with fail
      exact ⟨rfl, he2, rfl⟩
    · obtain ⟨k0, k1⟩ := hk
      obtain rfl : u13 = .bool true := k0
      obtain rfl : u11 = .bool true := k1
      go_wp2_with fail
      exact ⟨rfl, Ext.refl _, by show (_ : Value) = _; (first | rfl | simp); try rfl⟩
    · have k0 := hk
      obtain rfl : u14 = .bool true := k0
      go_wp2_with fail
      exact ⟨rfl, Ext.refl _, trivial⟩
    · obtain ⟨k0, k1⟩ := hk
      obtain rfl : u14 = .bool true := k1
      go_wp2_with fail
      exact ⟨rfl, Ext.refl _, trivial⟩
    · obtain ⟨k0, k1⟩ := hk
      obtain rfl : u14 = .bool true := k1
      go_wp2_with fail
      exact ⟨rfl, Ext.refl _, trivial⟩
    · obtain ⟨k0, k1⟩ := hk
      obtain rfl : u14 = .bool true := k1
      go_wp2_with fail
      exact ⟨rfl, Ext.refl _, trivial⟩
    · obtain ⟨k0, k1, k2⟩ := hk
      obtain rfl : u14 = .bool true := k0
      obtain rfl : u11 = .bool true := k2
      go_wp2_with fail
      exact ⟨rfl, Ext.refl _, by show (_ : Value) = _; (first | rfl | simp); try rfl⟩
    · obtain ⟨k0, k1⟩ := hk
      obtain rfl : u11 = .bool true := k0
      obtain rfl : u19 = .bool true := k1
      go_wp2_with fail
      exact ⟨rfl, Ext.refl _, by show (_ : Value) = _; (first | rfl | simp); try rfl⟩
  case last =>
    intro w1 he u0 h0 u1 h1 u2 h2 u3 h3 u4 h4 u5 h5 u6 h6 u7 h7 u8 h8 u9 h9 u10 h10 u11 h11 u12 h12 u13 h13 u14 h14 u15 h15 u16 h16 u17 h17 u18 h18 u19 h19 u20 h20
    obtain rfl : u20 = .bool true := h20
    clear h0 h1 h2 h3 h4 h5 h6 h7 h8 h9 h10 h11 h12 h13 h14 h15 h16 h17 h18 h19
    simp only [LastD, Act.put, List.setIfInBounds_toArray, List.set_cons_succ, List.set_cons_zero]
    have HE := Lib.hid (((Ext.alloc _ _).trans (Ext.alloc _ _)).trans he)
    clear he
    go_wp2_with fail
    go_ret
    exact ⟨HE.out, rfl⟩

set_option maxHeartbeats 1000000 in
theorem fnTriangle_walk_2 (n0 : Bool) (v0 : Value) (ws0 : List Nat) (n1 : Bool) (v1 : Value) (ws1 : List Nat) (w : World) (hr0 : Rd .u64 w v0 ws0) (hl0 : ws0.length ≤ 17592186043904) (hr1 : Rd .u64 w v1 ws1) (hl1 : ws1.length ≤ 17592186043904) (hc : (ival n0 ws0) ≠ 0) :
    Calls Try.prog 14 #[.agg #[.bool n0, v0], .agg #[.bool n1, v1]] w (ValR (.bool true) w) := by
  obtain ⟨a0, c0, rfl⟩ := hr0.form
  have hz0 : IsZ 17592186043904 (ival n0 ws0) (.agg #[.bool n0, .slice a0 ws0.length c0]) w := ⟨n0, _, ws0, rfl, hr0, hl0, rfl⟩
  generalize hg0 : ival n0 ws0 = a at hz0
  have HZ0 := Lib.hid hz0
  have HG0 := Lib.hid hg0
  clear hz0 hg0 hr0
  obtain ⟨a1, c1, rfl⟩ := hr1.form
  have hz1 : IsZ 17592186043904 (ival n1 ws1) (.agg #[.bool n1, .slice a1 ws1.length c1]) w := ⟨n1, _, ws1, rfl, hr1, hl1, rfl⟩
  generalize hg1 : ival n1 ws1 = b at hz1
  have HZ1 := Lib.hid hz1
  have HG1 := Lib.hid hg1
  clear hz1 hg1 hr1
  have HC : Hid (a ≠ 0) := by simp only [HG0.out, HG1.out] at hc; exact hc
  clear hc
  go_enter Try.func14, Try.ntmps14
  go_wp2_with fail
  refine wp_region_D preExt mixed [IsZ (17592186043904) (a), IsZ (17592186043904) (b), IsC (17592186043905) ((a) + (b)), IsC (17592186043905) ((((a) + (b)).natAbs : Int)), IsZ (17592186043904) (a), IsC (17592186043904) (((a).natAbs : Int)), IsZ (17592186043904) (b), IsC (17592186043904) (((b).natAbs : Int)), IsC (17592186043905) ((((a).natAbs : Int)) + (((b).natAbs : Int))), Is (.int .i64 (cmpZ ((((a) + (b)).natAbs : Int)) ((((a).natAbs : Int)) + (((b).natAbs : Int))))), Is (.bool true), Is (.bool true), IsZ (17592186043904) (a), Is (.bool false), Is (.bool false), IsZ (17592186043904) (a), IsC (17592186043904) (((a).natAbs : Int)), Is (.int .i64 1), Is (.bool true), Is (.bool true), Is (.bool true)] (by kernel_rfl) ?mono rfl ?steps ?last
  case mono =>
    simp only [List.forall_mem_cons, List.not_mem_nil, false_implies, implies_true, and_true]
    refine ⟨?_, ?_, ?_, ?_, ?_, ?_, ?_, ?_, ?_, ?_, ?_, ?_, ?_, ?_, ?_, ?_, ?_, ?_, ?_, ?_, ?_⟩
    all_goals first | exact fun _ _ _ _ q => q | exact fun _ _ _ he q => q.ext he
  case steps =>
    refine ⟨?_, ?_, ?_, ?_, ?_, ?_, ?_, ?_, ?_, ?_, ?_, ?_, ?_, ?_, ?_, ?_, ?_, ?_, ?_, ?_, ?_, trivial⟩
    all_goals
      intro u0 u1 u2 u3 u4 u5 u6 u7 u8 u9 u10 u11 u12 u13 u14 u15 u16 u17 u18 u19 u20 u21 w1 he hk
      simp [KnownD, Oper.looksAt, Op.operands, Call.operands, List.findIdx?_cons, Act.put] at hk
      simp only [Act.put, List.setIfInBounds_toArray, List.set_cons_succ, List.set_cons_zero]
    · have hb := he.block ((Ext.alloc _ _).block (heap_alloc_new _ _))
      have hc0 := blk_cell hb 0
      have hc1 := blk_cell hb 1
      simp at hc0 hc1
      clear hb
      go_wp2_with fail
      exact ⟨rfl, Ext.refl _, HZ0.out.ext (((Ext.alloc _ _).trans (Ext.alloc _ _)).trans he)⟩
    · have hb := he.block (heap_second _ _ _)
      have hc0 := blk_cell hb 0
      have hc1 := blk_cell hb 1
      simp at hc0 hc1
      clear hb
      go_wp2_with fail
      exact ⟨rfl, Ext.refl _, HZ1.out.ext (((Ext.alloc _ _).trans (Ext.alloc _ _)).trans he)⟩
    · obtain ⟨k0, k1⟩ := hk
      have H0 := Lib.hid k0
      have H1 := Lib.hid k1
      clear k0 k1
      go_wp2_with fail
      refine (add_z (17592186043904) (a) (b) _ _ _ ((H0.out).mono (by omega)) ((H1.out).mono (by omega)) (by omega)).mono ?_
      rintro e w2 ⟨he2, x, rfl, hx⟩
      have HX := Lib.hid hx
      clear hx
      go_wp2_with fail
      exact ⟨rfl, he2, HX.out⟩
    · have k0 := hk
      have H0 : Hid (IsC (17592186043905) ((a) + (b)) u2 w1) := Lib.hid (by first | exact k0 | simpa using k0)
      clear k0
      go_wp2_with fail
      refine (abs_z (17592186043905) ((a) + (b)) _ _ (H0.out.z) (by omega)).mono ?_
      rintro e w2 ⟨he2, x, rfl, hx⟩
      have HX := Lib.hid hx
      clear hx
      go_wp2_with fail
      exact ⟨rfl, he2, HX.out⟩
    · have hb := he.block ((Ext.alloc _ _).block (heap_alloc_new _ _))
      have hc0 := blk_cell hb 0
      have hc1 := blk_cell hb 1
      simp at hc0 hc1
      clear hb
      go_wp2_with fail
      exact ⟨rfl, Ext.refl _, HZ0.out.ext (((Ext.alloc _ _).trans (Ext.alloc _ _)).trans he)⟩
    · have k0 := hk
      have H0 := Lib.hid k0
      clear k0
      go_wp2_with fail
      refine (abs_z (17592186043904) (a) _ _ (H0.out) (by omega)).mono ?_
      rintro e w2 ⟨he2, x, rfl, hx⟩
      have HX := Lib.hid hx
      clear hx
      go_wp2_with fail
      exact ⟨rfl, he2, HX.out⟩
    · have hb := he.block (heap_second _ _ _)
      have hc0 := blk_cell hb 0
      have hc1 := blk_cell hb 1
      simp at hc0 hc1
      clear hb
      go_wp2_with fail
      exact ⟨rfl, Ext.refl _, HZ1.out.ext (((Ext.alloc _ _).trans (Ext.alloc _ _)).trans he)⟩
    · have k0 := hk
      have H0 := Lib.hid k0
      clear k0
      go_wp2_with fail
      refine (abs_z (17592186043904) (b) _ _ (H0.out) (by omega)).mono ?_
      rintro e w2 ⟨he2, x, rfl, hx⟩
      have HX := Lib.hid hx
      clear hx
      go_wp2_with fail
      exact ⟨rfl, he2, HX.out⟩
    · obtain ⟨k0, k1⟩ := hk
      have H0 : Hid (IsC (17592186043904) (((a).natAbs : Int)) u5 w1) := Lib.hid (by first | exact k0 | simpa using k0)
      have H1 : Hid (IsC (17592186043904) (((b).natAbs : Int)) u7 w1) := Lib.hid (by first | exact k1 | simpa using k1)
      clear k0 k1
      go_wp2_with fail
      refine (add_z (17592186043904) (((a).natAbs : Int)) (((b).natAbs : Int)) _ _ _ ((H0.out.z).mono (by omega)) ((H1.out.z).mono (by omega)) (by omega)).mono ?_
      rintro e w2 ⟨he2, x, rfl, hx⟩
      have HX := Lib.hid hx
      clear hx
      go_wp2_with fail
      exact ⟨rfl, he2, HX.out⟩
    · obtain ⟨k0, k1⟩ := hk
      have H0 : Hid (IsC (17592186043905) ((((a) + (b)).natAbs : Int)) u3 w1) := Lib.hid (by first | exact k0 | simpa using k0)
      have H1 : Hid (IsC (17592186043905) ((((a).natAbs : Int)) + (((b).natAbs : Int))) u8 w1) := Lib.hid (by first | exact k1 | simpa using k1)
      clear k0 k1
      go_wp2_with fail
      refine (compare_z (17592186043905) (17592186043905) ((((a) + (b)).natAbs : Int)) ((((a).natAbs : Int)) + (((b).natAbs : Int))) _ _ _ (H0.out.z) (H1.out.z) (by omega) (by omega)).mono ?_
      rintro e w2 ⟨he2, x, rfl, hx⟩
      obtain rfl : x = .int .i64 (cmpZ ((((a) + (b)).natAbs : Int)) ((((a).natAbs : Int)) + (((b).natAbs : Int)))) := hx
      go_wp2_with fail
      exact ⟨rfl, he2, rfl⟩
    · have k0 := hk
      obtain rfl : u9 = .int .i64 (cmpZ ((((a) + (b)).natAbs : Int)) ((((a).natAbs : Int)) + (((b).natAbs : Int)))) := k0
      go_wp2_with fail
      exact ⟨rfl, Ext.refl _, by show (_ : Value) = _; (simp only [show cmpZ (((a) + (b)).natAbs : Int) (((a).natAbs : Int) + ((b).natAbs : Int)) ≤ 0 from cmpZ_le (by omega), decide_true]); try rfl⟩
    · have k0 := hk
      obtain rfl : u10 = .bool true := k0
      go_wp2_with fail
      exact ⟨rfl, Ext.refl _, by show (_ : Value) = _; (first | rfl | simp); try rfl⟩
    · have k0 := hk
      obtain rfl : u11 = .bool true := k0
      have hb := he.block ((Ext.alloc _ _).block (heap_alloc_new _ _))
      have hc0 := blk_cell hb 0
      have hc1 := blk_cell hb 1
      simp at hc0 hc1
      clear hb
      go_wp2_with fail
      exact ⟨rfl, Ext.refl _, HZ0.out.ext (((Ext.alloc _ _).trans (Ext.alloc _ _)).trans he)⟩
    · obtain ⟨k0, k1⟩ := hk
      obtain rfl : u11 = .bool true := k1
      have H0 := Lib.hid k0
      clear k0
      go_wp2_with fail
      refine (zero_z (17592186043904) (a) _ _ (H0.out) (by omega)).mono ?_
      rintro e w2 ⟨he2, x, rfl, hx⟩
      obtain rfl : x = .bool false := hx.trans (by have := HC.out; simp; omega)
      go_wp2_with fail
      exact ⟨rfl, he2, rfl⟩
    · obtain ⟨k0, k1⟩ := hk
      obtain rfl : u13 = .bool false := k0
      obtain rfl : u11 = .bool true := k1
      go_wp2_with fail
      exact ⟨rfl, Ext.refl _, by show (_ : Value) = _; (first | rfl | simp); try rfl⟩
    · have k0 := hk
      obtain rfl : u14 = .bool false := k0
      have hb := he.block ((Ext.alloc _ _).block (heap_alloc_new _ _))
      have hc0 := blk_cell hb 0
      have hc1 := blk_cell hb 1
      simp at hc0 hc1
      clear hb
      go_wp2_with fail
      exact ⟨rfl, Ext.refl _, HZ0.out.ext (((Ext.alloc _ _).trans (Ext.alloc _ _)).trans he)⟩
    · obtain ⟨k0, k1⟩ := hk
      obtain rfl : u14 = .bool false := k1
      have H0 := Lib.hid k0
      clear k0
      go_wp2_with fail
      refine (abs_z (17592186043904) (a) _ _ (H0.out) (by omega)).mono ?_
      rintro e w2 ⟨he2, x, rfl, hx⟩
      have HX := Lib.hid hx
      clear hx
      go_wp2_with fail
      exact ⟨rfl, he2, HX.out⟩
    · obtain ⟨k0, k1⟩ := hk
      obtain rfl : u14 = .bool false := k1
      have H0 : Hid (IsC (17592186043904) (((a).natAbs : Int)) u16 w1) := Lib.hid (by first | exact k0 | simpa using k0)
      clear k0
      go_wp2_with fail
      refine (sign_z (17592186043904) (((a).natAbs : Int)) _ _ (H0.out.z) (by omega)).mono ?_
      rintro e w2 ⟨he2, x, rfl, hx⟩
      obtain rfl : x = .int .i64 1 := hx.trans (by rw [show sgnZ ((a).natAbs : Int) = 1 by have := HC.out; unfold sgnZ; rw [if_neg (by omega), if_neg (by omega)]])
      go_wp2_with fail
      exact ⟨rfl, he2, rfl⟩
    · obtain ⟨k0, k1⟩ := hk
      obtain rfl : u17 = .int .i64 1 := k0
      obtain rfl : u14 = .bool false := k1
      go_wp2_with fail
      exact ⟨rfl, Ext.refl _, by show (_ : Value) = _; (simp); try rfl⟩
    · obtain ⟨k0, k1, k2⟩ := hk
      obtain rfl : u14 = .bool false := k0
      obtain rfl : u18 = .bool true := k1
      obtain rfl : u11 = .bool true := k2
      go_wp2_with fail
      exact ⟨rfl, Ext.refl _, by show (_ : Value) = _; (first | rfl | simp); try rfl⟩
    · obtain ⟨k0, k1⟩ := hk
      obtain rfl : u11 = .bool true := k0
      obtain rfl : u19 = .bool true := k1
      go_wp2_with fail
      exact ⟨rfl, Ext.refl _, by show (_ : Value) = _; (first | rfl | simp); try rfl⟩
  case last =>
    intro w1 he u0 h0 u1 h1 u2 h2 u3 h3 u4 h4 u5 h5 u6 h6 u7 h7 u8 h8 u9 h9 u10 h10 u11 h11 u12 h12 u13 h13 u14 h14 u15 h15 u16 h16 u17 h17 u18 h18 u19 h19 u20 h20
    obtain rfl : u20 = .bool true := h20
    clear h0 h1 h2 h3 h4 h5 h6 h7 h8 h9 h10 h11 h12 h13 h14 h15 h16 h17 h18 h19
    simp only [LastD, Act.put, List.setIfInBounds_toArray, List.set_cons_succ, List.set_cons_zero]
    have HE := Lib.hid (((Ext.alloc _ _).trans (Ext.alloc _ _)).trans he)
    clear he
    go_wp2_with fail
    go_ret
    exact ⟨HE.out, rfl⟩

theorem fnTriangle_walk (n0 : Bool) (v0 : Value) (ws0 : List Nat) (n1 : Bool) (v1 : Value) (ws1 : List Nat) (w : World) (hr0 : Rd .u64 w v0 ws0) (hl0 : ws0.length ≤ 17592186043904) (hr1 : Rd .u64 w v1 ws1) (hl1 : ws1.length ≤ 17592186043904) :
    Calls Try.prog 14 #[.agg #[.bool n0, v0], .agg #[.bool n1, v1]] w (ValR (.bool true) w) := by
  by_cases h : (ival n0 ws0) = 0
  · exact fnTriangle_walk_1 n0 v0 ws0 n1 v1 ws1 w hr0 hl0 hr1 hl1 h
  · exact fnTriangle_walk_2 n0 v0 ws0 n1 v1 ws1 w hr0 hl0 hr1 hl1 h

end Go.Proofs.Ytacmojhladdalaa

