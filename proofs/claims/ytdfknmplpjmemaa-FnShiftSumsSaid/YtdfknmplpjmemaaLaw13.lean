/- FnLshDoubles, FnShiftSums (printed by lawgen.py). -/
import Derived.Test.YtdfknmplpjmemaaLshZ
import Derived.Test.YtdfknmplpjmemaaAddZ
import Derived.Test.YtdfknmplpjmemaaCmp3
import Derived.Test.YtdfknmplpjmemaaHelpers
set_option linter.unusedSimpArgs false
set_option linter.unusedVariables false
namespace Go.Proofs.Ytdfknmplpjmemaa
open Go.RowKit

set_option maxHeartbeats 1000000 in
theorem fnLshDoubles_walk_1 (n0 : Bool) (v0 : Value) (ws0 : List Nat) (n : Nat) (w : World) (hr0 : Rd .u64 w v0 ws0) (hl0 : ws0.length ≤ 17592186043904) (hn : 4095 < n) :
    Calls Try.prog 5 #[.agg #[.bool n0, v0], .int .u64 (n : Nat)] w (ValR (.bool true) w) := by
  obtain ⟨a0, c0, rfl⟩ := hr0.form
  have hz0 : IsZ 17592186043904 (ival n0 ws0) (.agg #[.bool n0, .slice a0 ws0.length c0]) w := ⟨n0, _, ws0, rfl, hr0, hl0, rfl⟩
  generalize hg0 : ival n0 ws0 = a at hz0
  have HZ0 := Lib.hid hz0
  have HG0 := Lib.hid hg0
  clear hz0 hg0 hr0
  go_enter Try.func5, Try.ntmps5
  go_wp2_with fail
  refine wp_region_D preExt mixed [Is (.int .u64 (n : Nat)), Is (.bool true), Is (.bool true), Is undef, Is undef, Is undef, Is undef, Is undef, Is undef, Is undef, Is undef, Is undef, Is undef, Is undef, Is undef, Is undef, Is undef, Is undef, Is undef, Is undef, Is undef, Is undef, Is undef, Is undef, Is undef, Is undef, Is undef, Is undef, Is undef, Is (.bool true)] (by kernel_rfl) ?mono rfl ?steps ?last
  case mono =>
    simp only [List.forall_mem_cons, List.not_mem_nil, false_implies, implies_true, and_true]
    refine ⟨?_, ?_, ?_, ?_, ?_, ?_, ?_, ?_, ?_, ?_, ?_, ?_, ?_, ?_, ?_, ?_, ?_, ?_, ?_, ?_, ?_, ?_, ?_, ?_, ?_, ?_, ?_, ?_, ?_, ?_⟩
    all_goals first | exact fun _ _ _ _ q => q | exact fun _ _ _ he q => q.ext he
  case steps =>
    refine ⟨?_, ?_, ?_, ?_, ?_, ?_, ?_, ?_, ?_, ?_, ?_, ?_, ?_, ?_, ?_, ?_, ?_, ?_, ?_, ?_, ?_, ?_, ?_, ?_, ?_, ?_, ?_, ?_, ?_, ?_, trivial⟩
    all_goals
      intro u0 u1 u2 u3 u4 u5 u6 u7 u8 u9 u10 u11 u12 u13 u14 u15 u16 u17 u18 u19 u20 u21 u22 u23 u24 u25 u26 u27 u28 u29 u30 w1 he hk
      simp [KnownD, Oper.looksAt, Op.operands, Call.operands, List.findIdx?_cons, Act.put] at hk
      simp only [Act.put, List.setIfInBounds_toArray, List.set_cons_succ, List.set_cons_zero]
    · go_wp2_with fail
      exact ⟨rfl, Ext.refl _, by show (_ : Value) = _; (first | rfl | simp); try rfl⟩
    · have k0 := hk
      obtain rfl : u0 = .int .u64 (n : Nat) := k0
      go_wp2_with fail
      exact ⟨rfl, Ext.refl _, by show (_ : Value) = _; (simp; omega); try rfl⟩
    · have k0 := hk
      obtain rfl : u1 = .bool true := k0
      go_wp2_with fail
      exact ⟨rfl, Ext.refl _, by show (_ : Value) = _; (first | rfl | simp); try rfl⟩
    · have k0 := hk
      obtain rfl : u2 = .bool true := k0
      go_wp2_with fail
      exact ⟨rfl, Ext.refl _, rfl⟩
    · obtain ⟨k0, k1⟩ := hk
      obtain rfl : u3 = undef := k0
      obtain rfl : u2 = .bool true := k1
      go_wp2_with fail
      exact ⟨rfl, Ext.refl _, rfl⟩
    · have k0 := hk
      obtain rfl : u2 = .bool true := k0
      go_wp2_with fail
      exact ⟨rfl, Ext.refl _, rfl⟩
    · have k0 := hk
      obtain rfl : u2 = .bool true := k0
      go_wp2_with fail
      exact ⟨rfl, Ext.refl _, rfl⟩
    · obtain ⟨k0, k1, k2⟩ := hk
      obtain rfl : u5 = undef := k0
      obtain rfl : u6 = undef := k1
      obtain rfl : u2 = .bool true := k2
      go_wp2_with fail
      exact ⟨rfl, Ext.refl _, rfl⟩
    · obtain ⟨k0, k1, k2⟩ := hk
      obtain rfl : u4 = undef := k0
      obtain rfl : u7 = undef := k1
      obtain rfl : u2 = .bool true := k2
      go_wp2_with fail
      exact ⟨rfl, Ext.refl _, rfl⟩
    · obtain ⟨k0, k1⟩ := hk
      obtain rfl : u8 = undef := k0
      obtain rfl : u2 = .bool true := k1
      go_wp2_with fail
      exact ⟨rfl, Ext.refl _, rfl⟩
    · have k0 := hk
      obtain rfl : u9 = undef := k0
      go_wp2_with fail
      exact ⟨rfl, Ext.refl _, rfl⟩
    · have k0 := hk
      obtain rfl : u9 = undef := k0
      go_wp2_with fail
      exact ⟨rfl, Ext.refl _, rfl⟩
    · obtain ⟨k0, k1⟩ := hk
      obtain rfl : u11 = undef := k0
      obtain rfl : u9 = undef := k1
      go_wp2_with fail
      exact ⟨rfl, Ext.refl _, rfl⟩
    · obtain ⟨k0, k1, k2⟩ := hk
      obtain rfl : u10 = undef := k0
      obtain rfl : u12 = undef := k1
      obtain rfl : u9 = undef := k2
      go_wp2_with fail
      exact ⟨rfl, Ext.refl _, rfl⟩
    · have k0 := hk
      obtain rfl : u9 = undef := k0
      go_wp2_with fail
      exact ⟨rfl, Ext.refl _, rfl⟩
    · have k0 := hk
      obtain rfl : u9 = undef := k0
      go_wp2_with fail
      exact ⟨rfl, Ext.refl _, rfl⟩
    · obtain ⟨k0, k1, k2⟩ := hk
      obtain rfl : u14 = undef := k0
      obtain rfl : u15 = undef := k1
      obtain rfl : u9 = undef := k2
      go_wp2_with fail
      exact ⟨rfl, Ext.refl _, rfl⟩
    · have k0 := hk
      obtain rfl : u9 = undef := k0
      go_wp2_with fail
      exact ⟨rfl, Ext.refl _, rfl⟩
    · have k0 := hk
      obtain rfl : u9 = undef := k0
      go_wp2_with fail
      exact ⟨rfl, Ext.refl _, rfl⟩
    · obtain ⟨k0, k1, k2⟩ := hk
      obtain rfl : u17 = undef := k0
      obtain rfl : u18 = undef := k1
      obtain rfl : u9 = undef := k2
      go_wp2_with fail
      exact ⟨rfl, Ext.refl _, rfl⟩
    · obtain ⟨k0, k1, k2⟩ := hk
      obtain rfl : u16 = undef := k0
      obtain rfl : u19 = undef := k1
      obtain rfl : u9 = undef := k2
      go_wp2_with fail
      exact ⟨rfl, Ext.refl _, rfl⟩
    · obtain ⟨k0, k1, k2⟩ := hk
      obtain rfl : u13 = undef := k0
      obtain rfl : u20 = undef := k1
      obtain rfl : u9 = undef := k2
      go_wp2_with fail
      exact ⟨rfl, Ext.refl _, rfl⟩
    · obtain ⟨k0, k1, k2⟩ := hk
      obtain rfl : u9 = undef := k0
      obtain rfl : u21 = undef := k1
      obtain rfl : u2 = .bool true := k2
      go_wp2_with fail
      exact ⟨rfl, Ext.refl _, rfl⟩
    · obtain ⟨k0, k1⟩ := hk
      obtain rfl : u22 = undef := k0
      obtain rfl : u2 = .bool true := k1
      go_wp2_with fail
      exact ⟨rfl, Ext.refl _, rfl⟩
    · have k0 := hk
      obtain rfl : u23 = undef := k0
      go_wp2_with fail
      exact ⟨rfl, Ext.refl _, rfl⟩
    · obtain ⟨k0, k1⟩ := hk
      obtain rfl : u24 = undef := k0
      obtain rfl : u23 = undef := k1
      go_wp2_with fail
      exact ⟨rfl, Ext.refl _, rfl⟩
    · have k0 := hk
      obtain rfl : u23 = undef := k0
      go_wp2_with fail
      exact ⟨rfl, Ext.refl _, rfl⟩
    · obtain ⟨k0, k1, k2⟩ := hk
      obtain rfl : u25 = undef := k0
      obtain rfl : u26 = undef := k1
      obtain rfl : u23 = undef := k2
      go_wp2_with fail
      exact ⟨rfl, Ext.refl _, rfl⟩
    · obtain ⟨k0, k1, k2⟩ := hk
      obtain rfl : u23 = undef := k0
      obtain rfl : u27 = undef := k1
      obtain rfl : u2 = .bool true := k2
      go_wp2_with fail
      exact ⟨rfl, Ext.refl _, rfl⟩
    · obtain ⟨k0, k1⟩ := hk
      obtain rfl : u2 = .bool true := k0
      obtain rfl : u28 = undef := k1
      go_wp2_with fail
      exact ⟨rfl, Ext.refl _, by show (_ : Value) = _; (first | rfl | simp); try rfl⟩
  case last =>
    intro w1 he u0 h0 u1 h1 u2 h2 u3 h3 u4 h4 u5 h5 u6 h6 u7 h7 u8 h8 u9 h9 u10 h10 u11 h11 u12 h12 u13 h13 u14 h14 u15 h15 u16 h16 u17 h17 u18 h18 u19 h19 u20 h20 u21 h21 u22 h22 u23 h23 u24 h24 u25 h25 u26 h26 u27 h27 u28 h28 u29 h29
    obtain rfl : u29 = .bool true := h29
    clear h0 h1 h2 h3 h4 h5 h6 h7 h8 h9 h10 h11 h12 h13 h14 h15 h16 h17 h18 h19 h20 h21 h22 h23 h24 h25 h26 h27 h28
    simp only [LastD, Act.put, List.setIfInBounds_toArray, List.set_cons_succ, List.set_cons_zero]
    have HE := Lib.hid ((Ext.alloc _ _).trans he)
    clear he
    go_wp2_with fail
    go_ret
    exact ⟨HE.out, rfl⟩

set_option maxHeartbeats 1000000 in
theorem fnLshDoubles_walk_2 (n0 : Bool) (v0 : Value) (ws0 : List Nat) (n : Nat) (w : World) (hr0 : Rd .u64 w v0 ws0) (hl0 : ws0.length ≤ 17592186043904) (hn : n ≤ 4095) :
    Calls Try.prog 5 #[.agg #[.bool n0, v0], .int .u64 (n : Nat)] w (ValR (.bool true) w) := by
  obtain ⟨a0, c0, rfl⟩ := hr0.form
  have hz0 : IsZ 17592186043904 (ival n0 ws0) (.agg #[.bool n0, .slice a0 ws0.length c0]) w := ⟨n0, _, ws0, rfl, hr0, hl0, rfl⟩
  generalize hg0 : ival n0 ws0 = a at hz0
  have HZ0 := Lib.hid hz0
  have HG0 := Lib.hid hg0
  clear hz0 hg0 hr0
  go_enter Try.func5, Try.ntmps5
  go_wp2_with fail
  refine wp_region_D preExt mixed [Is (.int .u64 (n : Nat)), Is (.bool false), Is (.bool false), IsZ (17592186043904) (a), IsC (17592186043969) ((a) * 2 ^ (1)), IsZ (17592186043904) (a), IsZ (17592186043904) (a), IsC (17592186043905) ((a) + (a)), Is (.bool true), Is (.bool true), IsZ (17592186043904) (a), Is (.int .u64 (n : Nat)), Is (.int .u64 (n + 1 : Nat)), IsC (17592186043969) ((a) * 2 ^ (n + 1)), IsZ (17592186043904) (a), Is (.int .u64 (n : Nat)), IsC (17592186043969) ((a) * 2 ^ (n)), IsZ (17592186043904) (a), Is (.int .u64 (n : Nat)), IsC (17592186043969) ((a) * 2 ^ (n)), IsC (17592186043970) (((a) * 2 ^ (n)) + ((a) * 2 ^ (n))), Is (.bool true), Is (.bool true), Is (.bool true), IsZ (17592186043904) (a), IsC (17592186043969) ((a) * 2 ^ (0)), IsZ (17592186043904) (a), Is (.bool true), Is (.bool true), Is (.bool true)] (by kernel_rfl) ?mono rfl ?steps ?last
  case mono =>
    simp only [List.forall_mem_cons, List.not_mem_nil, false_implies, implies_true, and_true]
    refine ⟨?_, ?_, ?_, ?_, ?_, ?_, ?_, ?_, ?_, ?_, ?_, ?_, ?_, ?_, ?_, ?_, ?_, ?_, ?_, ?_, ?_, ?_, ?_, ?_, ?_, ?_, ?_, ?_, ?_, ?_⟩
    all_goals first | exact fun _ _ _ _ q => q | exact fun _ _ _ he q => q.ext he
  case steps =>
    refine ⟨?_, ?_, ?_, ?_, ?_, ?_, ?_, ?_, ?_, ?_, ?_, ?_, ?_, ?_, ?_, ?_, ?_, ?_, ?_, ?_, ?_, ?_, ?_, ?_, ?_, ?_, ?_, ?_, ?_, ?_, trivial⟩
    all_goals
      intro u0 u1 u2 u3 u4 u5 u6 u7 u8 u9 u10 u11 u12 u13 u14 u15 u16 u17 u18 u19 u20 u21 u22 u23 u24 u25 u26 u27 u28 u29 u30 w1 he hk
      simp [KnownD, Oper.looksAt, Op.operands, Call.operands, List.findIdx?_cons, Act.put] at hk
      simp only [Act.put, List.setIfInBounds_toArray, List.set_cons_succ, List.set_cons_zero]
    · go_wp2_with fail
      exact ⟨rfl, Ext.refl _, by show (_ : Value) = _; (first | rfl | simp); try rfl⟩
    · have k0 := hk
      obtain rfl : u0 = .int .u64 (n : Nat) := k0
      go_wp2_with fail
      exact ⟨rfl, Ext.refl _, by show (_ : Value) = _; (simp; omega); try rfl⟩
    · have k0 := hk
      obtain rfl : u1 = .bool false := k0
      go_wp2_with fail
      exact ⟨rfl, Ext.refl _, by show (_ : Value) = _; (first | rfl | simp); try rfl⟩
    · have k0 := hk
      obtain rfl : u2 = .bool false := k0
      have hb := he.block (heap_alloc_new _ _)
      have hc0 := blk_cell hb 0
      have hc1 := blk_cell hb 1
      simp at hc0 hc1
      clear hb
      go_wp2_with fail
      exact ⟨rfl, Ext.refl _, HZ0.out.ext ((Ext.alloc _ _).trans he)⟩
    · obtain ⟨k0, k1⟩ := hk
      obtain rfl : u2 = .bool false := k1
      have H0 := Lib.hid k0
      clear k0
      go_wp2_with fail
      refine (lsh_n (17592186043904) (a) (1) _ _ (H0.out) (by omega) (by omega)).mono ?_
      rintro e w2 ⟨he2, x, rfl, hx⟩
      have HX := Lib.hid hx
      clear hx
      go_wp2_with fail
      exact ⟨rfl, he2, HX.out⟩
    · have k0 := hk
      obtain rfl : u2 = .bool false := k0
      have hb := he.block (heap_alloc_new _ _)
      have hc0 := blk_cell hb 0
      have hc1 := blk_cell hb 1
      simp at hc0 hc1
      clear hb
      go_wp2_with fail
      exact ⟨rfl, Ext.refl _, HZ0.out.ext ((Ext.alloc _ _).trans he)⟩
    · have k0 := hk
      obtain rfl : u2 = .bool false := k0
      have hb := he.block (heap_alloc_new _ _)
      have hc0 := blk_cell hb 0
      have hc1 := blk_cell hb 1
      simp at hc0 hc1
      clear hb
      go_wp2_with fail
      exact ⟨rfl, Ext.refl _, HZ0.out.ext ((Ext.alloc _ _).trans he)⟩
    · obtain ⟨k0, k1, k2⟩ := hk
      obtain rfl : u2 = .bool false := k2
      have H0 := Lib.hid k0
      have H1 := Lib.hid k1
      clear k0 k1
      go_wp2_with fail
      refine (add_z (17592186043904) (a) (a) _ _ _ ((H0.out).mono (by omega)) ((H1.out).mono (by omega)) (by omega)).mono ?_
      rintro e w2 ⟨he2, x, rfl, hx⟩
      have HX := Lib.hid hx
      clear hx
      go_wp2_with fail
      exact ⟨rfl, he2, HX.out⟩
    · obtain ⟨k0, k1, k2⟩ := hk
      obtain rfl : u2 = .bool false := k2
      have H0 : Hid (IsC (17592186043969) ((a) * 2 ^ (1)) u4 w1) := Lib.hid (by first | exact k0 | simpa using k0)
      have H1 : Hid (IsC (17592186043905) ((a) + (a)) u7 w1) := Lib.hid (by first | exact k1 | simpa using k1)
      clear k0 k1
      go_wp2_with fail
      refine (same_z (17592186043969) (17592186043905) ((a) * 2 ^ (1)) ((a) + (a)) _ _ _ (H0.out.z) (H1.out.z) (by omega) (by omega)).mono ?_
      rintro e w2 ⟨he2, x, rfl, hx⟩
      obtain rfl : x = .bool true := hx.trans (by congr 1; exact decide_eq_true (by omega))
      go_wp2_with fail
      exact ⟨rfl, he2, rfl⟩
    · obtain ⟨k0, k1⟩ := hk
      obtain rfl : u8 = .bool true := k0
      obtain rfl : u2 = .bool false := k1
      go_wp2_with fail
      exact ⟨rfl, Ext.refl _, by show (_ : Value) = _; (first | rfl | simp); try rfl⟩
    · have k0 := hk
      obtain rfl : u9 = .bool true := k0
      have hb := he.block (heap_alloc_new _ _)
      have hc0 := blk_cell hb 0
      have hc1 := blk_cell hb 1
      simp at hc0 hc1
      clear hb
      go_wp2_with fail
      exact ⟨rfl, Ext.refl _, HZ0.out.ext ((Ext.alloc _ _).trans he)⟩
    · have k0 := hk
      obtain rfl : u9 = .bool true := k0
      go_wp2_with fail
      exact ⟨rfl, Ext.refl _, by show (_ : Value) = _; (first | rfl | simp); try rfl⟩
    · obtain ⟨k0, k1⟩ := hk
      obtain rfl : u11 = .int .u64 (n : Nat) := k0
      obtain rfl : u9 = .bool true := k1
      go_wp2_with fail
      exact ⟨rfl, Ext.refl _, by show (_ : Value) = _; (first | rfl | simp); try rfl⟩
    · obtain ⟨k0, k1, k2⟩ := hk
      obtain rfl : u12 = .int .u64 (n + 1 : Nat) := k1
      obtain rfl : u9 = .bool true := k2
      have H0 := Lib.hid k0
      clear k0
      go_wp2_with fail
      refine (lsh_n (17592186043904) (a) (n + 1) _ _ (H0.out) (by omega) (by omega)).mono ?_
      rintro e w2 ⟨he2, x, rfl, hx⟩
      have HX := Lib.hid hx
      clear hx
      go_wp2_with fail
      exact ⟨rfl, he2, HX.out⟩
    · have k0 := hk
      obtain rfl : u9 = .bool true := k0
      have hb := he.block (heap_alloc_new _ _)
      have hc0 := blk_cell hb 0
      have hc1 := blk_cell hb 1
      simp at hc0 hc1
      clear hb
      go_wp2_with fail
      exact ⟨rfl, Ext.refl _, HZ0.out.ext ((Ext.alloc _ _).trans he)⟩
    · have k0 := hk
      obtain rfl : u9 = .bool true := k0
      go_wp2_with fail
      exact ⟨rfl, Ext.refl _, by show (_ : Value) = _; (first | rfl | simp); try rfl⟩
    · obtain ⟨k0, k1, k2⟩ := hk
      obtain rfl : u15 = .int .u64 (n : Nat) := k1
      obtain rfl : u9 = .bool true := k2
      have H0 := Lib.hid k0
      clear k0
      go_wp2_with fail
      refine (lsh_n (17592186043904) (a) (n) _ _ (H0.out) (by omega) (by omega)).mono ?_
      rintro e w2 ⟨he2, x, rfl, hx⟩
      have HX := Lib.hid hx
      clear hx
      go_wp2_with fail
      exact ⟨rfl, he2, HX.out⟩
    · have k0 := hk
      obtain rfl : u9 = .bool true := k0
      have hb := he.block (heap_alloc_new _ _)
      have hc0 := blk_cell hb 0
      have hc1 := blk_cell hb 1
      simp at hc0 hc1
      clear hb
      go_wp2_with fail
      exact ⟨rfl, Ext.refl _, HZ0.out.ext ((Ext.alloc _ _).trans he)⟩
    · have k0 := hk
      obtain rfl : u9 = .bool true := k0
      go_wp2_with fail
      exact ⟨rfl, Ext.refl _, by show (_ : Value) = _; (first | rfl | simp); try rfl⟩
    · obtain ⟨k0, k1, k2⟩ := hk
      obtain rfl : u18 = .int .u64 (n : Nat) := k1
      obtain rfl : u9 = .bool true := k2
      have H0 := Lib.hid k0
      clear k0
      go_wp2_with fail
      refine (lsh_n (17592186043904) (a) (n) _ _ (H0.out) (by omega) (by omega)).mono ?_
      rintro e w2 ⟨he2, x, rfl, hx⟩
      have HX := Lib.hid hx
      clear hx
      go_wp2_with fail
      exact ⟨rfl, he2, HX.out⟩
    · obtain ⟨k0, k1, k2⟩ := hk
      obtain rfl : u9 = .bool true := k2
      have H0 : Hid (IsC (17592186043969) ((a) * 2 ^ (n)) u16 w1) := Lib.hid (by first | exact k0 | simpa using k0)
      have H1 : Hid (IsC (17592186043969) ((a) * 2 ^ (n)) u19 w1) := Lib.hid (by first | exact k1 | simpa using k1)
      clear k0 k1
      go_wp2_with fail
      refine (add_z (17592186043969) ((a) * 2 ^ (n)) ((a) * 2 ^ (n)) _ _ _ ((H0.out.z).mono (by omega)) ((H1.out.z).mono (by omega)) (by omega)).mono ?_
      rintro e w2 ⟨he2, x, rfl, hx⟩
      have HX := Lib.hid hx
      clear hx
      go_wp2_with fail
      exact ⟨rfl, he2, HX.out⟩
    · obtain ⟨k0, k1, k2⟩ := hk
      obtain rfl : u9 = .bool true := k2
      have H0 : Hid (IsC (17592186043969) ((a) * 2 ^ (n + 1)) u13 w1) := Lib.hid (by first | exact k0 | simpa using k0)
      have H1 : Hid (IsC (17592186043970) (((a) * 2 ^ (n)) + ((a) * 2 ^ (n))) u20 w1) := Lib.hid (by first | exact k1 | simpa using k1)
      clear k0 k1
      go_wp2_with fail
      refine (same_z (17592186043969) (17592186043970) ((a) * 2 ^ (n + 1)) (((a) * 2 ^ (n)) + ((a) * 2 ^ (n))) _ _ _ (H0.out.z) (H1.out.z) (by omega) (by omega)).mono ?_
      rintro e w2 ⟨he2, x, rfl, hx⟩
      obtain rfl : x = .bool true := hx.trans (by congr 1; exact decide_eq_true (by rw [Int.pow_succ, ← Int.mul_assoc]; omega))
      go_wp2_with fail
      exact ⟨rfl, he2, rfl⟩
    · obtain ⟨k0, k1, k2⟩ := hk
      obtain rfl : u9 = .bool true := k0
      obtain rfl : u21 = .bool true := k1
      obtain rfl : u2 = .bool false := k2
      go_wp2_with fail
      exact ⟨rfl, Ext.refl _, by show (_ : Value) = _; (first | rfl | simp); try rfl⟩
    · obtain ⟨k0, k1⟩ := hk
      obtain rfl : u22 = .bool true := k0
      obtain rfl : u2 = .bool false := k1
      go_wp2_with fail
      exact ⟨rfl, Ext.refl _, by show (_ : Value) = _; (first | rfl | simp); try rfl⟩
    · have k0 := hk
      obtain rfl : u23 = .bool true := k0
      have hb := he.block (heap_alloc_new _ _)
      have hc0 := blk_cell hb 0
      have hc1 := blk_cell hb 1
      simp at hc0 hc1
      clear hb
      go_wp2_with fail
      exact ⟨rfl, Ext.refl _, HZ0.out.ext ((Ext.alloc _ _).trans he)⟩
    · obtain ⟨k0, k1⟩ := hk
      obtain rfl : u23 = .bool true := k1
      have H0 := Lib.hid k0
      clear k0
      go_wp2_with fail
      refine (lsh_n (17592186043904) (a) (0) _ _ (H0.out) (by omega) (by omega)).mono ?_
      rintro e w2 ⟨he2, x, rfl, hx⟩
      have HX := Lib.hid hx
      clear hx
      go_wp2_with fail
      exact ⟨rfl, he2, HX.out⟩
    · have k0 := hk
      obtain rfl : u23 = .bool true := k0
      have hb := he.block (heap_alloc_new _ _)
      have hc0 := blk_cell hb 0
      have hc1 := blk_cell hb 1
      simp at hc0 hc1
      clear hb
      go_wp2_with fail
      exact ⟨rfl, Ext.refl _, HZ0.out.ext ((Ext.alloc _ _).trans he)⟩
    · obtain ⟨k0, k1, k2⟩ := hk
      obtain rfl : u23 = .bool true := k2
      have H0 : Hid (IsC (17592186043969) ((a) * 2 ^ (0)) u25 w1) := Lib.hid (by first | exact k0 | simpa using k0)
      have H1 := Lib.hid k1
      clear k0 k1
      go_wp2_with fail
      refine (same_z (17592186043969) (17592186043904) ((a) * 2 ^ (0)) (a) _ _ _ (H0.out.z) (H1.out) (by omega) (by omega)).mono ?_
      rintro e w2 ⟨he2, x, rfl, hx⟩
      obtain rfl : x = .bool true := hx.trans (by simp)
      go_wp2_with fail
      exact ⟨rfl, he2, rfl⟩
    · obtain ⟨k0, k1, k2⟩ := hk
      obtain rfl : u23 = .bool true := k0
      obtain rfl : u27 = .bool true := k1
      obtain rfl : u2 = .bool false := k2
      go_wp2_with fail
      exact ⟨rfl, Ext.refl _, by show (_ : Value) = _; (first | rfl | simp); try rfl⟩
    · obtain ⟨k0, k1⟩ := hk
      obtain rfl : u2 = .bool false := k0
      obtain rfl : u28 = .bool true := k1
      go_wp2_with fail
      exact ⟨rfl, Ext.refl _, by show (_ : Value) = _; (first | rfl | simp); try rfl⟩
  case last =>
    intro w1 he u0 h0 u1 h1 u2 h2 u3 h3 u4 h4 u5 h5 u6 h6 u7 h7 u8 h8 u9 h9 u10 h10 u11 h11 u12 h12 u13 h13 u14 h14 u15 h15 u16 h16 u17 h17 u18 h18 u19 h19 u20 h20 u21 h21 u22 h22 u23 h23 u24 h24 u25 h25 u26 h26 u27 h27 u28 h28 u29 h29
    obtain rfl : u29 = .bool true := h29
    clear h0 h1 h2 h3 h4 h5 h6 h7 h8 h9 h10 h11 h12 h13 h14 h15 h16 h17 h18 h19 h20 h21 h22 h23 h24 h25 h26 h27 h28
    simp only [LastD, Act.put, List.setIfInBounds_toArray, List.set_cons_succ, List.set_cons_zero]
    have HE := Lib.hid ((Ext.alloc _ _).trans he)
    clear he
    go_wp2_with fail
    go_ret
    exact ⟨HE.out, rfl⟩

theorem fnLshDoubles_walk (n0 : Bool) (v0 : Value) (ws0 : List Nat) (n : Int) (w : World) (hr0 : Rd .u64 w v0 ws0) (hl0 : ws0.length ≤ 17592186043904) (hn : (Lit.int .u64 n).wf = true) :
    Calls Try.prog 5 #[.agg #[.bool n0, v0], .int .u64 n] w (ValR (.bool true) w) := by
  obtain ⟨n, rfl, hn⟩ := u64_nat hn
  by_cases h1 : n ≤ 4095
  · exact fnLshDoubles_walk_2 n0 v0 ws0 n w hr0 hl0 h1
  · exact fnLshDoubles_walk_1 n0 v0 ws0 n w hr0 hl0 (by omega)

set_option maxHeartbeats 1000000 in
theorem fnShiftSums_walk_1 (n0 : Bool) (v0 : Value) (ws0 : List Nat) (n1 : Bool) (v1 : Value) (ws1 : List Nat) (n : Nat) (w : World) (hr0 : Rd .u64 w v0 ws0) (hl0 : ws0.length ≤ 17592186043904) (hr1 : Rd .u64 w v1 ws1) (hl1 : ws1.length ≤ 17592186043904) (hn : 4096 < n) :
    Calls Try.prog 6 #[.agg #[.bool n0, v0], .agg #[.bool n1, v1], .int .u64 (n : Nat)] w (ValR (.bool true) w) := by
  obtain ⟨a0, c0, rfl⟩ := hr0.form
  have hz0 : IsZ 17592186043904 (ival n0 ws0) (.agg #[.bool n0, .slice a0 ws0.length c0]) w := ⟨n0, _, ws0, rfl, hr0, hl0, rfl⟩
  generalize hg0 : ival n0 ws0 = a at hz0
  have HZ0 := Lib.hid hz0
  have HG0 := Lib.hid hg0
  clear hz0 hg0 hr0
  obtain ⟨a1, c1, rfl⟩ := hr1.form
  have hz1 : IsZ 17592186043904 (ival n1 ws1) (.agg #[.bool n1, .slice a1 ws1.length c1]) w := ⟨n1, _, ws1, rfl, hr1, hl1, rfl⟩
  generalize hg1 : ival n1 ws1 = b at hz1
  have HZ1 := Lib.hid hz1
  have HG1 := Lib.hid hg1
  clear hz1 hg1 hr1
  go_enter Try.func6, Try.ntmps6
  go_wp2_with fail
  refine wp_region_D preExt mixed [Is (.int .u64 (n : Nat)), Is (.bool true), Is (.bool true), Is undef, Is undef, Is undef, Is undef, Is undef, Is undef, Is undef, Is undef, Is undef, Is undef, Is undef, Is undef, Is undef, Is undef, Is undef, Is undef, Is undef, Is undef, Is undef, Is (.bool true)] (by kernel_rfl) ?mono rfl ?steps ?last
  case mono =>
    simp only [List.forall_mem_cons, List.not_mem_nil, false_implies, implies_true, and_true]
    refine ⟨?_, ?_, ?_, ?_, ?_, ?_, ?_, ?_, ?_, ?_, ?_, ?_, ?_, ?_, ?_, ?_, ?_, ?_, ?_, ?_, ?_, ?_, ?_⟩
    all_goals first | exact fun _ _ _ _ q => q | exact fun _ _ _ he q => q.ext he
  case steps =>
    refine ⟨?_, ?_, ?_, ?_, ?_, ?_, ?_, ?_, ?_, ?_, ?_, ?_, ?_, ?_, ?_, ?_, ?_, ?_, ?_, ?_, ?_, ?_, ?_, trivial⟩
    all_goals
      intro u0 u1 u2 u3 u4 u5 u6 u7 u8 u9 u10 u11 u12 u13 u14 u15 u16 u17 u18 u19 u20 u21 u22 u23 w1 he hk
      simp [KnownD, Oper.looksAt, Op.operands, Call.operands, List.findIdx?_cons, Act.put] at hk
      simp only [Act.put, List.setIfInBounds_toArray, List.set_cons_succ, List.set_cons_zero]
    · go_wp2_with fail
      exact ⟨rfl, Ext.refl _, by show (_ : Value) = _; (first | rfl | simp); try rfl⟩
    · have k0 := hk
      obtain rfl : u0 = .int .u64 (n : Nat) := k0
      go_wp2_with fail
      exact ⟨rfl, Ext.refl _, by show (_ : Value) = _; (simp; omega); try rfl⟩
    · have k0 := hk
      obtain rfl : u1 = .bool true := k0
      go_wp2_with fail
      exact ⟨rfl, Ext.refl _, by show (_ : Value) = _; (first | rfl | simp); try rfl⟩
    · have k0 := hk
      obtain rfl : u2 = .bool true := k0
      go_wp2_with fail
      exact ⟨rfl, Ext.refl _, rfl⟩
    · have k0 := hk
      obtain rfl : u2 = .bool true := k0
      go_wp2_with fail
      exact ⟨rfl, Ext.refl _, rfl⟩
    · obtain ⟨k0, k1, k2⟩ := hk
      obtain rfl : u3 = undef := k0
      obtain rfl : u4 = undef := k1
      obtain rfl : u2 = .bool true := k2
      go_wp2_with fail
      exact ⟨rfl, Ext.refl _, rfl⟩
    · have k0 := hk
      obtain rfl : u2 = .bool true := k0
      go_wp2_with fail
      exact ⟨rfl, Ext.refl _, rfl⟩
    · obtain ⟨k0, k1, k2⟩ := hk
      obtain rfl : u5 = undef := k0
      obtain rfl : u6 = undef := k1
      obtain rfl : u2 = .bool true := k2
      go_wp2_with fail
      exact ⟨rfl, Ext.refl _, rfl⟩
    · have k0 := hk
      obtain rfl : u2 = .bool true := k0
      go_wp2_with fail
      exact ⟨rfl, Ext.refl _, rfl⟩
    · have k0 := hk
      obtain rfl : u2 = .bool true := k0
      go_wp2_with fail
      exact ⟨rfl, Ext.refl _, rfl⟩
    · obtain ⟨k0, k1, k2⟩ := hk
      obtain rfl : u8 = undef := k0
      obtain rfl : u9 = undef := k1
      obtain rfl : u2 = .bool true := k2
      go_wp2_with fail
      exact ⟨rfl, Ext.refl _, rfl⟩
    · have k0 := hk
      obtain rfl : u2 = .bool true := k0
      go_wp2_with fail
      exact ⟨rfl, Ext.refl _, rfl⟩
    · have k0 := hk
      obtain rfl : u2 = .bool true := k0
      go_wp2_with fail
      exact ⟨rfl, Ext.refl _, rfl⟩
    · obtain ⟨k0, k1, k2⟩ := hk
      obtain rfl : u11 = undef := k0
      obtain rfl : u12 = undef := k1
      obtain rfl : u2 = .bool true := k2
      go_wp2_with fail
      exact ⟨rfl, Ext.refl _, rfl⟩
    · obtain ⟨k0, k1, k2⟩ := hk
      obtain rfl : u10 = undef := k0
      obtain rfl : u13 = undef := k1
      obtain rfl : u2 = .bool true := k2
      go_wp2_with fail
      exact ⟨rfl, Ext.refl _, rfl⟩
    · obtain ⟨k0, k1, k2⟩ := hk
      obtain rfl : u7 = undef := k0
      obtain rfl : u14 = undef := k1
      obtain rfl : u2 = .bool true := k2
      go_wp2_with fail
      exact ⟨rfl, Ext.refl _, rfl⟩
    · obtain ⟨k0, k1⟩ := hk
      obtain rfl : u15 = undef := k0
      obtain rfl : u2 = .bool true := k1
      go_wp2_with fail
      exact ⟨rfl, Ext.refl _, rfl⟩
    · have k0 := hk
      obtain rfl : u16 = undef := k0
      go_wp2_with fail
      exact ⟨rfl, Ext.refl _, rfl⟩
    · obtain ⟨k0, k1⟩ := hk
      obtain rfl : u17 = undef := k0
      obtain rfl : u16 = undef := k1
      go_wp2_with fail
      exact ⟨rfl, Ext.refl _, rfl⟩
    · have k0 := hk
      obtain rfl : u16 = undef := k0
      go_wp2_with fail
      exact ⟨rfl, Ext.refl _, rfl⟩
    · obtain ⟨k0, k1, k2⟩ := hk
      obtain rfl : u18 = undef := k0
      obtain rfl : u19 = undef := k1
      obtain rfl : u16 = undef := k2
      go_wp2_with fail
      exact ⟨rfl, Ext.refl _, rfl⟩
    · obtain ⟨k0, k1, k2⟩ := hk
      obtain rfl : u16 = undef := k0
      obtain rfl : u20 = undef := k1
      obtain rfl : u2 = .bool true := k2
      go_wp2_with fail
      exact ⟨rfl, Ext.refl _, rfl⟩
    · obtain ⟨k0, k1⟩ := hk
      obtain rfl : u2 = .bool true := k0
      obtain rfl : u21 = undef := k1
      go_wp2_with fail
      exact ⟨rfl, Ext.refl _, by show (_ : Value) = _; (first | rfl | simp); try rfl⟩
  case last =>
    intro w1 he u0 h0 u1 h1 u2 h2 u3 h3 u4 h4 u5 h5 u6 h6 u7 h7 u8 h8 u9 h9 u10 h10 u11 h11 u12 h12 u13 h13 u14 h14 u15 h15 u16 h16 u17 h17 u18 h18 u19 h19 u20 h20 u21 h21 u22 h22
    obtain rfl : u22 = .bool true := h22
    clear h0 h1 h2 h3 h4 h5 h6 h7 h8 h9 h10 h11 h12 h13 h14 h15 h16 h17 h18 h19 h20 h21
    simp only [LastD, Act.put, List.setIfInBounds_toArray, List.set_cons_succ, List.set_cons_zero]
    have HE := Lib.hid (((Ext.alloc _ _).trans (Ext.alloc _ _)).trans he)
    clear he
    go_wp2_with fail
    go_ret
    exact ⟨HE.out, rfl⟩

set_option maxHeartbeats 1000000 in
theorem fnShiftSums_walk_2 (n0 : Bool) (v0 : Value) (ws0 : List Nat) (n1 : Bool) (v1 : Value) (ws1 : List Nat) (n : Nat) (w : World) (hr0 : Rd .u64 w v0 ws0) (hl0 : ws0.length ≤ 17592186043904) (hr1 : Rd .u64 w v1 ws1) (hl1 : ws1.length ≤ 17592186043904) (hn : n ≤ 4096) :
    Calls Try.prog 6 #[.agg #[.bool n0, v0], .agg #[.bool n1, v1], .int .u64 (n : Nat)] w (ValR (.bool true) w) := by
  obtain ⟨a0, c0, rfl⟩ := hr0.form
  have hz0 : IsZ 17592186043904 (ival n0 ws0) (.agg #[.bool n0, .slice a0 ws0.length c0]) w := ⟨n0, _, ws0, rfl, hr0, hl0, rfl⟩
  generalize hg0 : ival n0 ws0 = a at hz0
  have HZ0 := Lib.hid hz0
  have HG0 := Lib.hid hg0
  clear hz0 hg0 hr0
  obtain ⟨a1, c1, rfl⟩ := hr1.form
  have hz1 : IsZ 17592186043904 (ival n1 ws1) (.agg #[.bool n1, .slice a1 ws1.length c1]) w := ⟨n1, _, ws1, rfl, hr1, hl1, rfl⟩
  generalize hg1 : ival n1 ws1 = b at hz1
  have HZ1 := Lib.hid hz1
  have HG1 := Lib.hid hg1
  clear hz1 hg1 hr1
  go_enter Try.func6, Try.ntmps6
  go_wp2_with fail
  refine wp_region_D preExt mixed [Is (.int .u64 (n : Nat)), Is (.bool false), Is (.bool false), IsZ (17592186043904) (a), IsZ (17592186043904) (b), IsC (17592186043905) ((a) + (b)), Is (.int .u64 (n : Nat)), IsC (17592186043970) (((a) + (b)) * 2 ^ (n)), IsZ (17592186043904) (a), Is (.int .u64 (n : Nat)), IsC (17592186043969) ((a) * 2 ^ (n)), IsZ (17592186043904) (b), Is (.int .u64 (n : Nat)), IsC (17592186043969) ((b) * 2 ^ (n)), IsC (17592186043970) (((a) * 2 ^ (n)) + ((b) * 2 ^ (n))), Is (.bool true), Is (.bool true), IsZ (17592186043904) (a), IsC (17592186043969) ((a) * 2 ^ (0)), IsZ (17592186043904) (a), Is (.bool true), Is (.bool true), Is (.bool true)] (by kernel_rfl) ?mono rfl ?steps ?last
  case mono =>
    simp only [List.forall_mem_cons, List.not_mem_nil, false_implies, implies_true, and_true]
    refine ⟨?_, ?_, ?_, ?_, ?_, ?_, ?_, ?_, ?_, ?_, ?_, ?_, ?_, ?_, ?_, ?_, ?_, ?_, ?_, ?_, ?_, ?_, ?_⟩
    all_goals first | exact fun _ _ _ _ q => q | exact fun _ _ _ he q => q.ext he
  case steps =>
    refine ⟨?_, ?_, ?_, ?_, ?_, ?_, ?_, ?_, ?_, ?_, ?_, ?_, ?_, ?_, ?_, ?_, ?_, ?_, ?_, ?_, ?_, ?_, ?_, trivial⟩
    all_goals
      intro u0 u1 u2 u3 u4 u5 u6 u7 u8 u9 u10 u11 u12 u13 u14 u15 u16 u17 u18 u19 u20 u21 u22 u23 w1 he hk
      simp [KnownD, Oper.looksAt, Op.operands, Call.operands, List.findIdx?_cons, Act.put] at hk
      simp only [Act.put, List.setIfInBounds_toArray, List.set_cons_succ, List.set_cons_zero]
    · go_wp2_with fail
      exact ⟨rfl, Ext.refl _, by show (_ : Value) = _; (first | rfl | simp); try rfl⟩
    · have k0 := hk
      obtain rfl : u0 = .int .u64 (n : Nat) := k0
      go_wp2_with fail
      exact ⟨rfl, Ext.refl _, by show (_ : Value) = _; (simp; omega); try rfl⟩
    · have k0 := hk
      obtain rfl : u1 = .bool false := k0
      go_wp2_with fail
      exact ⟨rfl, Ext.refl _, by show (_ : Value) = _; (first | rfl | simp); try rfl⟩
    · have k0 := hk
      obtain rfl : u2 = .bool false := k0
      have hb := he.block ((Ext.alloc _ _).block (heap_alloc_new _ _))
      have hc0 := blk_cell hb 0
      have hc1 := blk_cell hb 1
      simp at hc0 hc1
      clear hb
      go_wp2_with fail
      exact ⟨rfl, Ext.refl _, HZ0.out.ext (((Ext.alloc _ _).trans (Ext.alloc _ _)).trans he)⟩
    · have k0 := hk
      obtain rfl : u2 = .bool false := k0
      have hb := he.block (heap_second _ _ _)
      have hc0 := blk_cell hb 0
      have hc1 := blk_cell hb 1
      simp at hc0 hc1
      clear hb
      go_wp2_with fail
      exact ⟨rfl, Ext.refl _, HZ1.out.ext (((Ext.alloc _ _).trans (Ext.alloc _ _)).trans he)⟩
    · obtain ⟨k0, k1, k2⟩ := hk
      obtain rfl : u2 = .bool false := k2
      have H0 := Lib.hid k0
      have H1 := Lib.hid k1
      clear k0 k1
      go_wp2_with fail
      refine (add_z (17592186043904) (a) (b) _ _ _ ((H0.out).mono (by omega)) ((H1.out).mono (by omega)) (by omega)).mono ?_
      rintro e w2 ⟨he2, x, rfl, hx⟩
      have HX := Lib.hid hx
      clear hx
      go_wp2_with fail
      exact ⟨rfl, he2, HX.out⟩
    · have k0 := hk
      obtain rfl : u2 = .bool false := k0
      go_wp2_with fail
      exact ⟨rfl, Ext.refl _, by show (_ : Value) = _; (first | rfl | simp); try rfl⟩
    · obtain ⟨k0, k1, k2⟩ := hk
      obtain rfl : u6 = .int .u64 (n : Nat) := k1
      obtain rfl : u2 = .bool false := k2
      have H0 : Hid (IsC (17592186043905) ((a) + (b)) u5 w1) := Lib.hid (by first | exact k0 | simpa using k0)
      clear k0
      go_wp2_with fail
      refine (lsh_n (17592186043905) ((a) + (b)) (n) _ _ (H0.out.z) (by omega) (by omega)).mono ?_
      rintro e w2 ⟨he2, x, rfl, hx⟩
      have HX := Lib.hid hx
      clear hx
      go_wp2_with fail
      exact ⟨rfl, he2, HX.out⟩
    · have k0 := hk
      obtain rfl : u2 = .bool false := k0
      have hb := he.block ((Ext.alloc _ _).block (heap_alloc_new _ _))
      have hc0 := blk_cell hb 0
      have hc1 := blk_cell hb 1
      simp at hc0 hc1
      clear hb
      go_wp2_with fail
      exact ⟨rfl, Ext.refl _, HZ0.out.ext (((Ext.alloc _ _).trans (Ext.alloc _ _)).trans he)⟩
    · have k0 := hk
      obtain rfl : u2 = .bool false := k0
      go_wp2_with fail
      exact ⟨rfl, Ext.refl _, by show (_ : Value) = _; (first | rfl | simp); try rfl⟩
    · obtain ⟨k0, k1, k2⟩ := hk
      obtain rfl : u9 = .int .u64 (n : Nat) := k1
      obtain rfl : u2 = .bool false := k2
      have H0 := Lib.hid k0
      clear k0
      go_wp2_with fail
      refine (lsh_n (17592186043904) (a) (n) _ _ (H0.out) (by omega) (by omega)).mono ?_
      rintro e w2 ⟨he2, x, rfl, hx⟩
      have HX := Lib.hid hx
      clear hx
      go_wp2_with fail
      exact ⟨rfl, he2, HX.out⟩
    · have k0 := hk
      obtain rfl : u2 = .bool false := k0
      have hb := he.block (heap_second _ _ _)
      have hc0 := blk_cell hb 0
      have hc1 := blk_cell hb 1
      simp at hc0 hc1
      clear hb
      go_wp2_with fail
      exact ⟨rfl, Ext.refl _, HZ1.out.ext (((Ext.alloc _ _).trans (Ext.alloc _ _)).trans he)⟩
    · have k0 := hk
      obtain rfl : u2 = .bool false := k0
      go_wp2_with fail
      exact ⟨rfl, Ext.refl _, by show (_ : Value) = _; (first | rfl | simp); try rfl⟩
    · obtain ⟨k0, k1, k2⟩ := hk
      obtain rfl : u12 = .int .u64 (n : Nat) := k1
      obtain rfl : u2 = .bool false := k2
      have H0 := Lib.hid k0
      clear k0
      go_wp2_with fail
      refine (lsh_n (17592186043904) (b) (n) _ _ (H0.out) (by omega) (by omega)).mono ?_
      rintro e w2 ⟨he2, x, rfl, hx⟩
      have HX := Lib.hid hx
      clear hx
      go_wp2_with fail
      exact ⟨rfl, he2, HX.out⟩
    · obtain ⟨k0, k1, k2⟩ := hk
      obtain rfl : u2 = .bool false := k2
      have H0 : Hid (IsC (17592186043969) ((a) * 2 ^ (n)) u10 w1) := Lib.hid (by first | exact k0 | simpa using k0)
      have H1 : Hid (IsC (17592186043969) ((b) * 2 ^ (n)) u13 w1) := Lib.hid (by first | exact k1 | simpa using k1)
      clear k0 k1
      go_wp2_with fail
      refine (add_z (17592186043969) ((a) * 2 ^ (n)) ((b) * 2 ^ (n)) _ _ _ ((H0.out.z).mono (by omega)) ((H1.out.z).mono (by omega)) (by omega)).mono ?_
      rintro e w2 ⟨he2, x, rfl, hx⟩
      have HX := Lib.hid hx
      clear hx
      go_wp2_with fail
      exact ⟨rfl, he2, HX.out⟩
    · obtain ⟨k0, k1, k2⟩ := hk
      obtain rfl : u2 = .bool false := k2
      have H0 : Hid (IsC (17592186043970) (((a) + (b)) * 2 ^ (n)) u7 w1) := Lib.hid (by first | exact k0 | simpa using k0)
      have H1 : Hid (IsC (17592186043970) (((a) * 2 ^ (n)) + ((b) * 2 ^ (n))) u14 w1) := Lib.hid (by first | exact k1 | simpa using k1)
      clear k0 k1
      go_wp2_with fail
      refine (same_z (17592186043970) (17592186043970) (((a) + (b)) * 2 ^ (n)) (((a) * 2 ^ (n)) + ((b) * 2 ^ (n))) _ _ _ (H0.out.z) (H1.out.z) (by omega) (by omega)).mono ?_
      rintro e w2 ⟨he2, x, rfl, hx⟩
      obtain rfl : x = .bool true := hx.trans (by congr 1; exact decide_eq_true (by rw [Int.add_mul]))
      go_wp2_with fail
      exact ⟨rfl, he2, rfl⟩
    · obtain ⟨k0, k1⟩ := hk
      obtain rfl : u15 = .bool true := k0
      obtain rfl : u2 = .bool false := k1
      go_wp2_with fail
      exact ⟨rfl, Ext.refl _, by show (_ : Value) = _; (first | rfl | simp); try rfl⟩
    · have k0 := hk
      obtain rfl : u16 = .bool true := k0
      have hb := he.block ((Ext.alloc _ _).block (heap_alloc_new _ _))
      have hc0 := blk_cell hb 0
      have hc1 := blk_cell hb 1
      simp at hc0 hc1
      clear hb
      go_wp2_with fail
      exact ⟨rfl, Ext.refl _, HZ0.out.ext (((Ext.alloc _ _).trans (Ext.alloc _ _)).trans he)⟩
    · obtain ⟨k0, k1⟩ := hk
      obtain rfl : u16 = .bool true := k1
      have H0 := Lib.hid k0
      clear k0
      go_wp2_with fail
      refine (lsh_n (17592186043904) (a) (0) _ _ (H0.out) (by omega) (by omega)).mono ?_
      rintro e w2 ⟨he2, x, rfl, hx⟩
      have HX := Lib.hid hx
      clear hx
      go_wp2_with fail
      exact ⟨rfl, he2, HX.out⟩
    · have k0 := hk
      obtain rfl : u16 = .bool true := k0
      have hb := he.block ((Ext.alloc _ _).block (heap_alloc_new _ _))
      have hc0 := blk_cell hb 0
      have hc1 := blk_cell hb 1
      simp at hc0 hc1
      clear hb
      go_wp2_with fail
      exact ⟨rfl, Ext.refl _, HZ0.out.ext (((Ext.alloc _ _).trans (Ext.alloc _ _)).trans he)⟩
    · obtain ⟨k0, k1, k2⟩ := hk
      obtain rfl : u16 = .bool true := k2
      have H0 : Hid (IsC (17592186043969) ((a) * 2 ^ (0)) u18 w1) := Lib.hid (by first | exact k0 | simpa using k0)
      have H1 := Lib.hid k1
      clear k0 k1
      go_wp2_with fail
      refine (same_z (17592186043969) (17592186043904) ((a) * 2 ^ (0)) (a) _ _ _ (H0.out.z) (H1.out) (by omega) (by omega)).mono ?_
      rintro e w2 ⟨he2, x, rfl, hx⟩
      obtain rfl : x = .bool true := hx.trans (by simp)
      go_wp2_with fail
      exact ⟨rfl, he2, rfl⟩
    · obtain ⟨k0, k1, k2⟩ := hk
      obtain rfl : u16 = .bool true := k0
      obtain rfl : u20 = .bool true := k1
      obtain rfl : u2 = .bool false := k2
      go_wp2_with fail
      exact ⟨rfl, Ext.refl _, by show (_ : Value) = _; (first | rfl | simp); try rfl⟩
    · obtain ⟨k0, k1⟩ := hk
      obtain rfl : u2 = .bool false := k0
      obtain rfl : u21 = .bool true := k1
      go_wp2_with fail
      exact ⟨rfl, Ext.refl _, by show (_ : Value) = _; (first | rfl | simp); try rfl⟩
  case last =>
    intro w1 he u0 h0 u1 h1 u2 h2 u3 h3 u4 h4 u5 h5 u6 h6 u7 h7 u8 h8 u9 h9 u10 h10 u11 h11 u12 h12 u13 h13 u14 h14 u15 h15 u16 h16 u17 h17 u18 h18 u19 h19 u20 h20 u21 h21 u22 h22
    obtain rfl : u22 = .bool true := h22
    clear h0 h1 h2 h3 h4 h5 h6 h7 h8 h9 h10 h11 h12 h13 h14 h15 h16 h17 h18 h19 h20 h21
    simp only [LastD, Act.put, List.setIfInBounds_toArray, List.set_cons_succ, List.set_cons_zero]
    have HE := Lib.hid (((Ext.alloc _ _).trans (Ext.alloc _ _)).trans he)
    clear he
    go_wp2_with fail
    go_ret
    exact ⟨HE.out, rfl⟩

theorem fnShiftSums_walk (n0 : Bool) (v0 : Value) (ws0 : List Nat) (n1 : Bool) (v1 : Value) (ws1 : List Nat) (n : Int) (w : World) (hr0 : Rd .u64 w v0 ws0) (hl0 : ws0.length ≤ 17592186043904) (hr1 : Rd .u64 w v1 ws1) (hl1 : ws1.length ≤ 17592186043904) (hn : (Lit.int .u64 n).wf = true) :
    Calls Try.prog 6 #[.agg #[.bool n0, v0], .agg #[.bool n1, v1], .int .u64 n] w (ValR (.bool true) w) := by
  obtain ⟨n, rfl, hn⟩ := u64_nat hn
  by_cases h1 : n ≤ 4096
  · exact fnShiftSums_walk_2 n0 v0 ws0 n1 v1 ws1 n w hr0 hl0 hr1 hl1 h1
  · exact fnShiftSums_walk_1 n0 v0 ws0 n1 v1 ws1 n w hr0 hl0 hr1 hl1 (by omega)

end Go.Proofs.Ytdfknmplpjmemaa

