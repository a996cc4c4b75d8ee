/- FnLshNeg, FnInt64Limits (printed by lawgen.py). -/
import Derived.Test.YtdodcmncdlnceaaLshZ
import Derived.Test.YtdodcmncdlnceaaLaw11
import Derived.Test.YtdodcmncdlnceaaPow
import Derived.Test.YtdodcmncdlnceaaCmp3
import Derived.Test.YtdodcmncdlnceaaHelpers
import Derived.Test.YtdodcmncdlnceaaOf
set_option linter.unusedSimpArgs false
set_option linter.unusedVariables false
namespace Go.Proofs.Ytdodcmncdlnceaa
open Go.RowKit

theorem power_n (n : Nat) (w : World) (hn : n ≤ 4096) : Calls Try.prog 28 #[.int .u64 (n : Nat)] w (ResR (IsW 66 (2 ^ n)) w) :=
  (power_z n w (by omega)).mono fun e w' ⟨h1, y, h2, n0, s, ws, h3, h4, h5, h6⟩ => ⟨h1, y, h2, n0, s, ws, h3, h4, by omega, h6⟩

theorem abs_shl (a : Int) (n : Nat) : ((a.natAbs : Int)) * 2 ^ n = ((a * 2 ^ n).natAbs : Int) := by
  rw [Int.natAbs_mul, Int.natAbs_pow]; simp

theorem lim63 (a : Int) : decide ((blen a : Int) < 64) = decide (a.natAbs < 9223372036854775808) := by
  have h := blen_le a 63
  rw [decide_eq_decide]
  omega

set_option maxHeartbeats 1000000 in
theorem fnLshNeg_walk_1 (n0 : Bool) (v0 : Value) (ws0 : List Nat) (n : Nat) (w : World) (hr0 : Rd .u64 w v0 ws0) (hl0 : ws0.length ≤ 17592186043904) (hn : 4096 < n) :
    Calls Try.prog 7 #[.agg #[.bool n0, v0], .int .u64 (n : Nat)] w (ValR (.bool true) w) := by
  obtain ⟨a0, c0, rfl⟩ := hr0.form
  have hz0 : IsZ 17592186043904 (ival n0 ws0) (.agg #[.bool n0, .slice a0 ws0.length c0]) w := ⟨n0, _, ws0, rfl, hr0, hl0, rfl⟩
  generalize hg0 : ival n0 ws0 = a at hz0
  have HZ0 := Lib.hid hz0
  have HG0 := Lib.hid hg0
  clear hz0 hg0 hr0
  go_enter Try.func7, Try.ntmps7
  go_wp2_with fail
  refine wp_region_D preExt mixed [Is (.int .u64 (n : Nat)), Is (.bool true), Is (.bool true), Is undef, Is undef, Is undef, Is undef, Is undef, Is undef, Is undef, Is undef, Is undef, Is undef, Is undef, Is undef, Is undef, Is undef, Is undef, Is undef, Is undef, Is undef, Is undef, Is undef, Is undef, Is undef, Is undef, Is undef, Is undef, Is undef, Is undef, Is undef, Is (.bool true)] (by kernel_rfl) ?mono rfl ?steps ?last
  case mono =>
    simp only [List.forall_mem_cons, List.not_mem_nil, false_implies, implies_true, and_true]
    refine ⟨?_, ?_, ?_, ?_, ?_, ?_, ?_, ?_, ?_, ?_, ?_, ?_, ?_, ?_, ?_, ?_, ?_, ?_, ?_, ?_, ?_, ?_, ?_, ?_, ?_, ?_, ?_, ?_, ?_, ?_, ?_, ?_⟩
    all_goals first | exact fun _ _ _ _ q => q | exact fun _ _ _ he q => q.ext he
  case steps =>
    refine ⟨?_, ?_, ?_, ?_, ?_, ?_, ?_, ?_, ?_, ?_, ?_, ?_, ?_, ?_, ?_, ?_, ?_, ?_, ?_, ?_, ?_, ?_, ?_, ?_, ?_, ?_, ?_, ?_, ?_, ?_, ?_, ?_, trivial⟩
    all_goals
      intro u0 u1 u2 u3 u4 u5 u6 u7 u8 u9 u10 u11 u12 u13 u14 u15 u16 u17 u18 u19 u20 u21 u22 u23 u24 u25 u26 u27 u28 u29 u30 u31 u32 w1 he hk
      simp [KnownD, Oper.looksAt, Op.operands, Call.operands, List.findIdx?_cons, Act.put] at hk
      simp only [Act.put, List.setIfInBounds_toArray, List.set_cons_succ, List.set_cons_zero]
    · go_wp2_with fail
      exact ⟨rfl, Ext.refl _, by show (_ : Value) = _; (first | rfl | simp); try rfl⟩
    · have k0 := hk
      obtain rfl : u0 = .int .u64 (n : Nat) := k0
      go_wp2_with fail
      exact ⟨rfl, Ext.refl _, by show (_ : Value) = _; (simp; omega); try rfl⟩
    · have k0 := hk
      obtain rfl : u1 = .bool true := k0
      go_wp2_with fail
      exact ⟨rfl, Ext.refl _, by show (_ : Value) = _; (first | rfl | simp); try rfl⟩
    · have k0 := hk
      obtain rfl : u2 = .bool true := k0
      go_wp2_with fail
      exact ⟨rfl, Ext.refl _, rfl⟩
    · obtain ⟨k0, k1⟩ := hk
      obtain rfl : u3 = undef := k0
      obtain rfl : u2 = .bool true := k1
      go_wp2_with fail
      exact ⟨rfl, Ext.refl _, rfl⟩
    · have k0 := hk
      obtain rfl : u2 = .bool true := k0
      go_wp2_with fail
      exact ⟨rfl, Ext.refl _, rfl⟩
    · obtain ⟨k0, k1, k2⟩ := hk
      obtain rfl : u4 = undef := k0
      obtain rfl : u5 = undef := k1
      obtain rfl : u2 = .bool true := k2
      go_wp2_with fail
      exact ⟨rfl, Ext.refl _, rfl⟩
    · have k0 := hk
      obtain rfl : u2 = .bool true := k0
      go_wp2_with fail
      exact ⟨rfl, Ext.refl _, rfl⟩
    · have k0 := hk
      obtain rfl : u2 = .bool true := k0
      go_wp2_with fail
      exact ⟨rfl, Ext.refl _, rfl⟩
    · obtain ⟨k0, k1, k2⟩ := hk
      obtain rfl : u7 = undef := k0
      obtain rfl : u8 = undef := k1
      obtain rfl : u2 = .bool true := k2
      go_wp2_with fail
      exact ⟨rfl, Ext.refl _, rfl⟩
    · obtain ⟨k0, k1⟩ := hk
      obtain rfl : u9 = undef := k0
      obtain rfl : u2 = .bool true := k1
      go_wp2_with fail
      exact ⟨rfl, Ext.refl _, rfl⟩
    · obtain ⟨k0, k1, k2⟩ := hk
      obtain rfl : u6 = undef := k0
      obtain rfl : u10 = undef := k1
      obtain rfl : u2 = .bool true := k2
      go_wp2_with fail
      exact ⟨rfl, Ext.refl _, rfl⟩
    · obtain ⟨k0, k1⟩ := hk
      obtain rfl : u11 = undef := k0
      obtain rfl : u2 = .bool true := k1
      go_wp2_with fail
      exact ⟨rfl, Ext.refl _, rfl⟩
    · have k0 := hk
      obtain rfl : u12 = undef := k0
      go_wp2_with fail
      exact ⟨rfl, Ext.refl _, rfl⟩
    · obtain ⟨k0, k1⟩ := hk
      obtain rfl : u13 = undef := k0
      obtain rfl : u12 = undef := k1
      go_wp2_with fail
      exact ⟨rfl, Ext.refl _, rfl⟩
    · have k0 := hk
      obtain rfl : u12 = undef := k0
      go_wp2_with fail
      exact ⟨rfl, Ext.refl _, rfl⟩
    · obtain ⟨k0, k1, k2⟩ := hk
      obtain rfl : u14 = undef := k0
      obtain rfl : u15 = undef := k1
      obtain rfl : u12 = undef := k2
      go_wp2_with fail
      exact ⟨rfl, Ext.refl _, rfl⟩
    · have k0 := hk
      obtain rfl : u12 = undef := k0
      go_wp2_with fail
      exact ⟨rfl, Ext.refl _, rfl⟩
    · have k0 := hk
      obtain rfl : u12 = undef := k0
      go_wp2_with fail
      exact ⟨rfl, Ext.refl _, rfl⟩
    · obtain ⟨k0, k1, k2⟩ := hk
      obtain rfl : u17 = undef := k0
      obtain rfl : u18 = undef := k1
      obtain rfl : u12 = undef := k2
      go_wp2_with fail
      exact ⟨rfl, Ext.refl _, rfl⟩
    · obtain ⟨k0, k1⟩ := hk
      obtain rfl : u19 = undef := k0
      obtain rfl : u12 = undef := k1
      go_wp2_with fail
      exact ⟨rfl, Ext.refl _, rfl⟩
    · obtain ⟨k0, k1, k2⟩ := hk
      obtain rfl : u16 = undef := k0
      obtain rfl : u20 = undef := k1
      obtain rfl : u12 = undef := k2
      go_wp2_with fail
      exact ⟨rfl, Ext.refl _, rfl⟩
    · obtain ⟨k0, k1, k2⟩ := hk
      obtain rfl : u12 = undef := k0
      obtain rfl : u21 = undef := k1
      obtain rfl : u2 = .bool true := k2
      go_wp2_with fail
      exact ⟨rfl, Ext.refl _, rfl⟩
    · obtain ⟨k0, k1⟩ := hk
      obtain rfl : u22 = undef := k0
      obtain rfl : u2 = .bool true := k1
      go_wp2_with fail
      exact ⟨rfl, Ext.refl _, rfl⟩
    · have k0 := hk
      obtain rfl : u23 = undef := k0
      go_wp2_with fail
      exact ⟨rfl, Ext.refl _, rfl⟩
    · have k0 := hk
      obtain rfl : u23 = undef := k0
      go_wp2_with fail
      exact ⟨rfl, Ext.refl _, rfl⟩
    · obtain ⟨k0, k1, k2⟩ := hk
      obtain rfl : u24 = undef := k0
      obtain rfl : u25 = undef := k1
      obtain rfl : u23 = undef := k2
      go_wp2_with fail
      exact ⟨rfl, Ext.refl _, rfl⟩
    · have k0 := hk
      obtain rfl : u23 = undef := k0
      go_wp2_with fail
      exact ⟨rfl, Ext.refl _, rfl⟩
    · obtain ⟨k0, k1⟩ := hk
      obtain rfl : u27 = undef := k0
      obtain rfl : u23 = undef := k1
      go_wp2_with fail
      exact ⟨rfl, Ext.refl _, rfl⟩
    · obtain ⟨k0, k1, k2⟩ := hk
      obtain rfl : u26 = undef := k0
      obtain rfl : u28 = undef := k1
      obtain rfl : u23 = undef := k2
      go_wp2_with fail
      exact ⟨rfl, Ext.refl _, rfl⟩
    · obtain ⟨k0, k1, k2⟩ := hk
      obtain rfl : u23 = undef := k0
      obtain rfl : u29 = undef := k1
      obtain rfl : u2 = .bool true := k2
      go_wp2_with fail
      exact ⟨rfl, Ext.refl _, rfl⟩
    · obtain ⟨k0, k1⟩ := hk
      obtain rfl : u2 = .bool true := k0
      obtain rfl : u30 = undef := k1
      go_wp2_with fail
      exact ⟨rfl, Ext.refl _, by show (_ : Value) = _; (first | rfl | simp); try rfl⟩
  case last =>
    intro w1 he u0 h0 u1 h1 u2 h2 u3 h3 u4 h4 u5 h5 u6 h6 u7 h7 u8 h8 u9 h9 u10 h10 u11 h11 u12 h12 u13 h13 u14 h14 u15 h15 u16 h16 u17 h17 u18 h18 u19 h19 u20 h20 u21 h21 u22 h22 u23 h23 u24 h24 u25 h25 u26 h26 u27 h27 u28 h28 u29 h29 u30 h30 u31 h31
    obtain rfl : u31 = .bool true := h31
    clear h0 h1 h2 h3 h4 h5 h6 h7 h8 h9 h10 h11 h12 h13 h14 h15 h16 h17 h18 h19 h20 h21 h22 h23 h24 h25 h26 h27 h28 h29 h30
    simp only [LastD, Act.put, List.setIfInBounds_toArray, List.set_cons_succ, List.set_cons_zero]
    have HE := Lib.hid ((Ext.alloc _ _).trans he)
    clear he
    go_wp2_with fail
    go_ret
    exact ⟨HE.out, rfl⟩

set_option maxHeartbeats 1000000 in
theorem fnLshNeg_walk_2 (n0 : Bool) (v0 : Value) (ws0 : List Nat) (n : Nat) (w : World) (hr0 : Rd .u64 w v0 ws0) (hl0 : ws0.length ≤ 17592186043904) (hn : n ≤ 4096) :
    Calls Try.prog 7 #[.agg #[.bool n0, v0], .int .u64 (n : Nat)] w (ValR (.bool true) w) := by
  obtain ⟨a0, c0, rfl⟩ := hr0.form
  have hz0 : IsZ 17592186043904 (ival n0 ws0) (.agg #[.bool n0, .slice a0 ws0.length c0]) w := ⟨n0, _, ws0, rfl, hr0, hl0, rfl⟩
  generalize hg0 : ival n0 ws0 = a at hz0
  have HZ0 := Lib.hid hz0
  have HG0 := Lib.hid hg0
  clear hz0 hg0 hr0
  go_enter Try.func7, Try.ntmps7
  go_wp2_with fail
  refine wp_region_D preExt mixed [Is (.int .u64 (n : Nat)), Is (.bool false), Is (.bool false), IsZ (17592186043904) (a), IsC (17592186043904) (-(a)), Is (.int .u64 (n : Nat)), IsC (17592186043969) ((-(a)) * 2 ^ (n)), IsZ (17592186043904) (a), Is (.int .u64 (n : Nat)), IsC (17592186043969) ((a) * 2 ^ (n)), IsC (17592186043969) (-((a) * 2 ^ (n))), Is (.bool true), Is (.bool true), IsZ (17592186043904) (a), IsC (17592186043904) (((a).natAbs : Int)), Is (.int .u64 (n : Nat)), IsC (17592186043969) ((((a).natAbs : Int)) * 2 ^ (n)), IsZ (17592186043904) (a), Is (.int .u64 (n : Nat)), IsC (17592186043969) ((a) * 2 ^ (n)), IsC (17592186043969) ((((a) * 2 ^ (n)).natAbs : Int)), Is (.bool true), Is (.bool true), Is (.bool true), IsW (1) (1), Is (.int .u64 (n : Nat)), IsC (66) ((1) * 2 ^ (n)), Is (.int .u64 (n : Nat)), IsW (66) (2 ^ (n)), Is (.bool true), Is (.bool true), Is (.bool true)] (by kernel_rfl) ?mono rfl ?steps ?last
  case mono =>
    simp only [List.forall_mem_cons, List.not_mem_nil, false_implies, implies_true, and_true]
    refine ⟨?_, ?_, ?_, ?_, ?_, ?_, ?_, ?_, ?_, ?_, ?_, ?_, ?_, ?_, ?_, ?_, ?_, ?_, ?_, ?_, ?_, ?_, ?_, ?_, ?_, ?_, ?_, ?_, ?_, ?_, ?_, ?_⟩
    all_goals first | exact fun _ _ _ _ q => q | exact fun _ _ _ he q => q.ext he
  case steps =>
    refine ⟨?_, ?_, ?_, ?_, ?_, ?_, ?_, ?_, ?_, ?_, ?_, ?_, ?_, ?_, ?_, ?_, ?_, ?_, ?_, ?_, ?_, ?_, ?_, ?_, ?_, ?_, ?_, ?_, ?_, ?_, ?_, ?_, trivial⟩
    all_goals
      intro u0 u1 u2 u3 u4 u5 u6 u7 u8 u9 u10 u11 u12 u13 u14 u15 u16 u17 u18 u19 u20 u21 u22 u23 u24 u25 u26 u27 u28 u29 u30 u31 u32 w1 he hk
      simp [KnownD, Oper.looksAt, Op.operands, Call.operands, List.findIdx?_cons, Act.put] at hk
      simp only [Act.put, List.setIfInBounds_toArray, List.set_cons_succ, List.set_cons_zero]
    · go_wp2_with fail
      exact ⟨rfl, Ext.refl _, by show (_ : Value) = _; (first | rfl | simp); try rfl⟩
    · have k0 := hk
      obtain rfl : u0 = .int .u64 (n : Nat) := k0
      go_wp2_with fail
      exact ⟨rfl, Ext.refl _, by show (_ : Value) = _; (simp; omega); try rfl⟩
    · have k0 := hk
      obtain rfl : u1 = .bool false := k0
      go_wp2_with fail
      exact ⟨rfl, Ext.refl _, by show (_ : Value) = _; (first | rfl | simp); try rfl⟩
    · have k0 := hk
      obtain rfl : u2 = .bool false := k0
      have hb := he.block (heap_alloc_new _ _)
      have hc0 := blk_cell hb 0
      have hc1 := blk_cell hb 1
      simp at hc0 hc1
      clear hb
      go_wp2_with fail
      exact ⟨rfl, Ext.refl _, HZ0.out.ext ((Ext.alloc _ _).trans he)⟩
    · obtain ⟨k0, k1⟩ := hk
      obtain rfl : u2 = .bool false := k1
      have H0 := Lib.hid k0
      clear k0
      go_wp2_with fail
      refine (neg_z (17592186043904) (a) _ _ (H0.out) (by omega)).mono ?_
      rintro e w2 ⟨he2, x, rfl, hx⟩
      have HX := Lib.hid hx
      clear hx
      go_wp2_with fail
      exact ⟨rfl, he2, HX.out⟩
    · have k0 := hk
      obtain rfl : u2 = .bool false := k0
      go_wp2_with fail
      exact ⟨rfl, Ext.refl _, by show (_ : Value) = _; (first | rfl | simp); try rfl⟩
    · obtain ⟨k0, k1, k2⟩ := hk
      obtain rfl : u5 = .int .u64 (n : Nat) := k1
      obtain rfl : u2 = .bool false := k2
      have H0 : Hid (IsC (17592186043904) (-(a)) u4 w1) := Lib.hid (by first | exact k0 | simpa using k0)
      clear k0
      go_wp2_with fail
      refine (lsh_n (17592186043904) (-(a)) (n) _ _ (H0.out.z) (by omega) (by omega)).mono ?_
      rintro e w2 ⟨he2, x, rfl, hx⟩
      have HX := Lib.hid hx
      clear hx
      go_wp2_with fail
      exact ⟨rfl, he2, HX.out⟩
    · have k0 := hk
      obtain rfl : u2 = .bool false := k0
      have hb := he.block (heap_alloc_new _ _)
      have hc0 := blk_cell hb 0
      have hc1 := blk_cell hb 1
      simp at hc0 hc1
      clear hb
      go_wp2_with fail
      exact ⟨rfl, Ext.refl _, HZ0.out.ext ((Ext.alloc _ _).trans he)⟩
    · have k0 := hk
      obtain rfl : u2 = .bool false := k0
      go_wp2_with fail
      exact ⟨rfl, Ext.refl _, by show (_ : Value) = _; (first | rfl | simp); try rfl⟩
    · obtain ⟨k0, k1, k2⟩ := hk
      obtain rfl : u8 = .int .u64 (n : Nat) := k1
      obtain rfl : u2 = .bool false := k2
      have H0 := Lib.hid k0
      clear k0
      go_wp2_with fail
      refine (lsh_n (17592186043904) (a) (n) _ _ (H0.out) (by omega) (by omega)).mono ?_
      rintro e w2 ⟨he2, x, rfl, hx⟩
      have HX := Lib.hid hx
      clear hx
      go_wp2_with fail
      exact ⟨rfl, he2, HX.out⟩
    · obtain ⟨k0, k1⟩ := hk
      obtain rfl : u2 = .bool false := k1
      have H0 : Hid (IsC (17592186043969) ((a) * 2 ^ (n)) u9 w1) := Lib.hid (by first | exact k0 | simpa using k0)
      clear k0
      go_wp2_with fail
      refine (neg_z (17592186043969) ((a) * 2 ^ (n)) _ _ (H0.out.z) (by omega)).mono ?_
      rintro e w2 ⟨he2, x, rfl, hx⟩
      have HX := Lib.hid hx
      clear hx
      go_wp2_with fail
      exact ⟨rfl, he2, HX.out⟩
    · obtain ⟨k0, k1, k2⟩ := hk
      obtain rfl : u2 = .bool false := k2
      have H0 : Hid (IsC (17592186043969) ((-(a)) * 2 ^ (n)) u6 w1) := Lib.hid (by first | exact k0 | simpa using k0)
      have H1 : Hid (IsC (17592186043969) (-((a) * 2 ^ (n))) u10 w1) := Lib.hid (by first | exact k1 | simpa using k1)
      clear k0 k1
      go_wp2_with fail
      refine (same_z (17592186043969) (17592186043969) ((-(a)) * 2 ^ (n)) (-((a) * 2 ^ (n))) _ _ _ (H0.out.z) (H1.out.z) (by omega) (by omega)).mono ?_
      rintro e w2 ⟨he2, x, rfl, hx⟩
      obtain rfl : x = .bool true := hx.trans (by congr 1; exact decide_eq_true (by rw [Int.neg_mul]))
      go_wp2_with fail
      exact ⟨rfl, he2, rfl⟩
    · obtain ⟨k0, k1⟩ := hk
      obtain rfl : u11 = .bool true := k0
      obtain rfl : u2 = .bool false := k1
      go_wp2_with fail
      exact ⟨rfl, Ext.refl _, by show (_ : Value) = _; (first | rfl | simp); try rfl⟩
    · have k0 := hk
      obtain rfl : u12 = .bool true := k0
      have hb := he.block (heap_alloc_new _ _)
      have hc0 := blk_cell hb 0
      have hc1 := blk_cell hb 1
      simp at hc0 hc1
      clear hb
      go_wp2_with fail
      exact ⟨rfl, Ext.refl _, HZ0.out.ext ((Ext.alloc _ _).trans he)⟩
    · obtain ⟨k0, k1⟩ := hk
      obtain rfl : u12 = .bool true := k1
      have H0 := Lib.hid k0
      clear k0
      go_wp2_with fail
      refine (abs_z (17592186043904) (a) _ _ (H0.out) (by omega)).mono ?_
      rintro e w2 ⟨he2, x, rfl, hx⟩
      have HX := Lib.hid hx
      clear hx
      go_wp2_with fail
      exact ⟨rfl, he2, HX.out⟩
    · have k0 := hk
      obtain rfl : u12 = .bool true := k0
      go_wp2_with fail
      exact ⟨rfl, Ext.refl _, by show (_ : Value) = _; (first | rfl | simp); try rfl⟩
    · obtain ⟨k0, k1, k2⟩ := hk
      obtain rfl : u15 = .int .u64 (n : Nat) := k1
      obtain rfl : u12 = .bool true := k2
      have H0 : Hid (IsC (17592186043904) (((a).natAbs : Int)) u14 w1) := Lib.hid (by first | exact k0 | simpa using k0)
      clear k0
      go_wp2_with fail
      refine (lsh_n (17592186043904) (((a).natAbs : Int)) (n) _ _ (H0.out.z) (by omega) (by omega)).mono ?_
      rintro e w2 ⟨he2, x, rfl, hx⟩
      have HX := Lib.hid hx
      clear hx
      go_wp2_with fail
      exact ⟨rfl, he2, HX.out⟩
    · have k0 := hk
      obtain rfl : u12 = .bool true := k0
      have hb := he.block (heap_alloc_new _ _)
      have hc0 := blk_cell hb 0
      have hc1 := blk_cell hb 1
      simp at hc0 hc1
      clear hb
      go_wp2_with fail
      exact ⟨rfl, Ext.refl _, HZ0.out.ext ((Ext.alloc _ _).trans he)⟩
    · have k0 := hk
      obtain rfl : u12 = .bool true := k0
      go_wp2_with fail
      exact ⟨rfl, Ext.refl _, by show (_ : Value) = _; (first | rfl | simp); try rfl⟩
    · obtain ⟨k0, k1, k2⟩ := hk
      obtain rfl : u18 = .int .u64 (n : Nat) := k1
      obtain rfl : u12 = .bool true := k2
      have H0 := Lib.hid k0
      clear k0
      go_wp2_with fail
      refine (lsh_n (17592186043904) (a) (n) _ _ (H0.out) (by omega) (by omega)).mono ?_
      rintro e w2 ⟨he2, x, rfl, hx⟩
      have HX := Lib.hid hx
      clear hx
      go_wp2_with fail
      exact ⟨rfl, he2, HX.out⟩
    · obtain ⟨k0, k1⟩ := hk
      obtain rfl : u12 = .bool true := k1
      have H0 : Hid (IsC (17592186043969) ((a) * 2 ^ (n)) u19 w1) := Lib.hid (by first | exact k0 | simpa using k0)
      clear k0
      go_wp2_with fail
      refine (abs_z (17592186043969) ((a) * 2 ^ (n)) _ _ (H0.out.z) (by omega)).mono ?_
      rintro e w2 ⟨he2, x, rfl, hx⟩
      have HX := Lib.hid hx
      clear hx
      go_wp2_with fail
      exact ⟨rfl, he2, HX.out⟩
    · obtain ⟨k0, k1, k2⟩ := hk
      obtain rfl : u12 = .bool true := k2
      have H0 : Hid (IsC (17592186043969) ((((a).natAbs : Int)) * 2 ^ (n)) u16 w1) := Lib.hid (by first | exact k0 | simpa using k0)
      have H1 : Hid (IsC (17592186043969) ((((a) * 2 ^ (n)).natAbs : Int)) u20 w1) := Lib.hid (by first | exact k1 | simpa using k1)
      clear k0 k1
      go_wp2_with fail
      refine (same_z (17592186043969) (17592186043969) ((((a).natAbs : Int)) * 2 ^ (n)) ((((a) * 2 ^ (n)).natAbs : Int)) _ _ _ (H0.out.z) (H1.out.z) (by omega) (by omega)).mono ?_
      rintro e w2 ⟨he2, x, rfl, hx⟩
      obtain rfl : x = .bool true := hx.trans (by congr 1; exact decide_eq_true (by exact abs_shl a n))
      go_wp2_with fail
      exact ⟨rfl, he2, rfl⟩
    · obtain ⟨k0, k1, k2⟩ := hk
      obtain rfl : u12 = .bool true := k0
      obtain rfl : u21 = .bool true := k1
      obtain rfl : u2 = .bool false := k2
      go_wp2_with fail
      exact ⟨rfl, Ext.refl _, by show (_ : Value) = _; (first | rfl | simp); try rfl⟩
    · obtain ⟨k0, k1⟩ := hk
      obtain rfl : u22 = .bool true := k0
      obtain rfl : u2 = .bool false := k1
      go_wp2_with fail
      exact ⟨rfl, Ext.refl _, by show (_ : Value) = _; (first | rfl | simp); try rfl⟩
    · have k0 := hk
      obtain rfl : u23 = .bool true := k0
      go_wp2_with fail
      refine (of_z (1) _ (by decide) (by decide)).mono ?_
      rintro e w2 ⟨he2, x, rfl, hx⟩
      have HX := Lib.hid hx
      clear hx
      go_wp2_with fail
      exact ⟨rfl, he2, HX.out⟩
    · have k0 := hk
      obtain rfl : u23 = .bool true := k0
      go_wp2_with fail
      exact ⟨rfl, Ext.refl _, by show (_ : Value) = _; (first | rfl | simp); try rfl⟩
    · obtain ⟨k0, k1, k2⟩ := hk
      obtain rfl : u25 = .int .u64 (n : Nat) := k1
      obtain rfl : u23 = .bool true := k2
      have H0 := Lib.hid k0
      clear k0
      go_wp2_with fail
      refine (lsh_n (1) (1) (n) _ _ (H0.out.z) (by omega) (by omega)).mono ?_
      rintro e w2 ⟨he2, x, rfl, hx⟩
      have HX := Lib.hid hx
      clear hx
      go_wp2_with fail
      exact ⟨rfl, he2, HX.out⟩
    · have k0 := hk
      obtain rfl : u23 = .bool true := k0
      go_wp2_with fail
      exact ⟨rfl, Ext.refl _, by show (_ : Value) = _; (first | rfl | simp); try rfl⟩
    · obtain ⟨k0, k1⟩ := hk
      obtain rfl : u27 = .int .u64 (n : Nat) := k0
      obtain rfl : u23 = .bool true := k1
      go_wp2_with fail
      refine (power_n (n) _ (by omega)).mono ?_
      rintro e w2 ⟨he2, x, rfl, hx⟩
      have HX := Lib.hid hx
      clear hx
      go_wp2_with fail
      exact ⟨rfl, he2, HX.out⟩
    · obtain ⟨k0, k1, k2⟩ := hk
      obtain rfl : u23 = .bool true := k2
      have H0 : Hid (IsC (66) ((1) * 2 ^ (n)) u26 w1) := Lib.hid (by first | exact k0 | simpa using k0)
      have H1 : Hid (IsW (66) (2 ^ (n)) u28 w1) := Lib.hid (by first | exact k1 | simpa using k1)
      clear k0 k1
      go_wp2_with fail
      refine (same_z (66) (66) ((1) * 2 ^ (n)) (2 ^ (n)) _ _ _ (H0.out.z) (H1.out.z) (by omega) (by omega)).mono ?_
      rintro e w2 ⟨he2, x, rfl, hx⟩
      obtain rfl : x = .bool true := hx.trans (by congr 1; exact decide_eq_true (by rw [Int.one_mul]))
      go_wp2_with fail
      exact ⟨rfl, he2, rfl⟩
    · obtain ⟨k0, k1, k2⟩ := hk
      obtain rfl : u23 = .bool true := k0
      obtain rfl : u29 = .bool true := k1
      obtain rfl : u2 = .bool false := k2
      go_wp2_with fail
      exact ⟨rfl, Ext.refl _, by show (_ : Value) = _; (first | rfl | simp); try rfl⟩
    · obtain ⟨k0, k1⟩ := hk
      obtain rfl : u2 = .bool false := k0
      obtain rfl : u30 = .bool true := k1
      go_wp2_with fail
      exact ⟨rfl, Ext.refl _, by show (_ : Value) = _; (first | rfl | simp); try rfl⟩
  case last =>
    intro w1 he u0 h0 u1 h1 u2 h2 u3 h3 u4 h4 u5 h5 u6 h6 u7 h7 u8 h8 u9 h9 u10 h10 u11 h11 u12 h12 u13 h13 u14 h14 u15 h15 u16 h16 u17 h17 u18 h18 u19 h19 u20 h20 u21 h21 u22 h22 u23 h23 u24 h24 u25 h25 u26 h26 u27 h27 u28 h28 u29 h29 u30 h30 u31 h31
    obtain rfl : u31 = .bool true := h31
    clear h0 h1 h2 h3 h4 h5 h6 h7 h8 h9 h10 h11 h12 h13 h14 h15 h16 h17 h18 h19 h20 h21 h22 h23 h24 h25 h26 h27 h28 h29 h30
    simp only [LastD, Act.put, List.setIfInBounds_toArray, List.set_cons_succ, List.set_cons_zero]
    have HE := Lib.hid ((Ext.alloc _ _).trans he)
    clear he
    go_wp2_with fail
    go_ret
    exact ⟨HE.out, rfl⟩

theorem fnLshNeg_walk (n0 : Bool) (v0 : Value) (ws0 : List Nat) (n : Int) (w : World) (hr0 : Rd .u64 w v0 ws0) (hl0 : ws0.length ≤ 17592186043904) (hn : (Lit.int .u64 n).wf = true) :
    Calls Try.prog 7 #[.agg #[.bool n0, v0], .int .u64 n] w (ValR (.bool true) w) := by
  obtain ⟨n, rfl, hn⟩ := u64_nat hn
  by_cases h1 : n ≤ 4096
  · exact fnLshNeg_walk_2 n0 v0 ws0 n w hr0 hl0 h1
  · exact fnLshNeg_walk_1 n0 v0 ws0 n w hr0 hl0 (by omega)

set_option maxHeartbeats 1000000 in
theorem fnInt64Limits_walk_1 (n0 : Bool) (v0 : Value) (ws0 : List Nat) (w : World) (hr0 : Rd .u64 w v0 ws0) (hl0 : ws0.length ≤ 17592186043904) (hc : (ival n0 ws0).natAbs < 9223372036854775808) :
    Calls Try.prog 8 #[.agg #[.bool n0, v0]] w (ValR (.bool true) w) := by
  obtain ⟨a0, c0, rfl⟩ := hr0.form
  have hz0 : IsZ 17592186043904 (ival n0 ws0) (.agg #[.bool n0, .slice a0 ws0.length c0]) w := ⟨n0, _, ws0, rfl, hr0, hl0, rfl⟩
  generalize hg0 : ival n0 ws0 = a at hz0
  have HZ0 := Lib.hid hz0
  have HG0 := Lib.hid hg0
  clear hz0 hg0 hr0
  have HC : Hid (a.natAbs < 9223372036854775808) := by simp only [HG0.out] at hc; exact hc
  clear hc
  go_enter Try.func8, Try.ntmps8
  go_wp2_with fail
  refine wp_region_D preExt mixed [IsZ (17592186043904) (a), Is (.bool true), IsZ (17592186043904) (a), Is (.int .i64 (blen (a) : Nat)), Is (.bool true), Is (.bool true), Is undef, Is undef, Is undef, Is undef, Is (.bool true), Is (.bool true)] (by kernel_rfl) ?mono rfl ?steps ?last
  case mono =>
    simp only [List.forall_mem_cons, List.not_mem_nil, false_implies, implies_true, and_true]
    refine ⟨?_, ?_, ?_, ?_, ?_, ?_, ?_, ?_, ?_, ?_, ?_, ?_⟩
    all_goals first | exact fun _ _ _ _ q => q | exact fun _ _ _ he q => q.ext he
  case steps =>
    refine ⟨?_, ?_, ?_, ?_, ?_, ?_, ?_, ?_, ?_, ?_, ?_, ?_, trivial⟩
    all_goals
      intro u0 u1 u2 u3 u4 u5 u6 u7 u8 u9 u10 u11 u12 w1 he hk
      simp [KnownD, Oper.looksAt, Op.operands, Call.operands, List.findIdx?_cons, Act.put] at hk
      simp only [Act.put, List.setIfInBounds_toArray, List.set_cons_succ, List.set_cons_zero]
    · have hb := he.block (heap_alloc_new _ _)
      have hc0 := blk_cell hb 0
      have hc1 := blk_cell hb 1
      simp at hc0 hc1
      clear hb
      go_wp2_with fail
      exact ⟨rfl, Ext.refl _, HZ0.out.ext ((Ext.alloc _ _).trans he)⟩
    · have k0 := hk
      have H0 := Lib.hid k0
      clear k0
      go_wp2_with fail
      refine (isInt_z (17592186043904) (a) _ _ (H0.out) (by omega)).mono ?_
      rintro e w2 ⟨he2, x, rfl, hx⟩
      obtain rfl : x = .bool true := hx.trans (by have := HC.out; simp [isI]; omega)
      go_wp2_with fail
      exact ⟨rfl, he2, rfl⟩
    · have hb := he.block (heap_alloc_new _ _)
      have hc0 := blk_cell hb 0
      have hc1 := blk_cell hb 1
      simp at hc0 hc1
      clear hb
      go_wp2_with fail
      exact ⟨rfl, Ext.refl _, HZ0.out.ext ((Ext.alloc _ _).trans he)⟩
    · have k0 := hk
      have H0 := Lib.hid k0
      clear k0
      go_wp2_with fail
      refine (bitLen_z (17592186043904) (a) _ _ (H0.out) (by omega)).mono ?_
      rintro e w2 ⟨he2, x, rfl, hx⟩
      obtain rfl : x = .int .i64 (blen (a) : Nat) := hx
      go_wp2_with fail
      exact ⟨rfl, he2, rfl⟩
    · have k0 := hk
      obtain rfl : u3 = .int .i64 (blen (a) : Nat) := k0
      go_wp2_with fail
      exact ⟨rfl, Ext.refl _, by show (_ : Value) = _; (rw [lim63]; have := HC.out; simp; omega); try rfl⟩
    · have k0 := hk
      obtain rfl : u4 = .bool true := k0
      go_wp2_with fail
      exact ⟨rfl, Ext.refl _, by show (_ : Value) = _; (first | rfl | simp); try rfl⟩
    · have k0 := hk
      obtain rfl : u5 = .bool true := k0
      go_wp2_with fail
      exact ⟨rfl, Ext.refl _, rfl⟩
    · have k0 := hk
      obtain rfl : u5 = .bool true := k0
      go_wp2_with fail
      exact ⟨rfl, Ext.refl _, rfl⟩
    · obtain ⟨k0, k1⟩ := hk
      obtain rfl : u7 = undef := k0
      obtain rfl : u5 = .bool true := k1
      go_wp2_with fail
      exact ⟨rfl, Ext.refl _, rfl⟩
    · obtain ⟨k0, k1, k2⟩ := hk
      obtain rfl : u6 = undef := k0
      obtain rfl : u8 = undef := k1
      obtain rfl : u5 = .bool true := k2
      go_wp2_with fail
      exact ⟨rfl, Ext.refl _, rfl⟩
    · obtain ⟨k0, k1⟩ := hk
      obtain rfl : u5 = .bool true := k0
      obtain rfl : u9 = undef := k1
      go_wp2_with fail
      exact ⟨rfl, Ext.refl _, by show (_ : Value) = _; (first | rfl | simp); try rfl⟩
    · obtain ⟨k0, k1⟩ := hk
      obtain rfl : u1 = .bool true := k0
      obtain rfl : u10 = .bool true := k1
      go_wp2_with fail
      exact ⟨rfl, Ext.refl _, by show (_ : Value) = _; (simp); try rfl⟩
  case last =>
    intro w1 he u0 h0 u1 h1 u2 h2 u3 h3 u4 h4 u5 h5 u6 h6 u7 h7 u8 h8 u9 h9 u10 h10 u11 h11
    obtain rfl : u11 = .bool true := h11
    clear h0 h1 h2 h3 h4 h5 h6 h7 h8 h9 h10
    simp only [LastD, Act.put, List.setIfInBounds_toArray, List.set_cons_succ, List.set_cons_zero]
    have HE := Lib.hid ((Ext.alloc _ _).trans he)
    clear he
    go_wp2_with fail
    go_ret
    exact ⟨HE.out, rfl⟩

set_option maxHeartbeats 1000000 in
theorem fnInt64Limits_walk_2 (n0 : Bool) (v0 : Value) (ws0 : List Nat) (w : World) (hr0 : Rd .u64 w v0 ws0) (hl0 : ws0.length ≤ 17592186043904) (hc : (ival n0 ws0) = -9223372036854775808) :
    Calls Try.prog 8 #[.agg #[.bool n0, v0]] w (ValR (.bool true) w) := by
  obtain ⟨a0, c0, rfl⟩ := hr0.form
  have hz0 : IsZ 17592186043904 (ival n0 ws0) (.agg #[.bool n0, .slice a0 ws0.length c0]) w := ⟨n0, _, ws0, rfl, hr0, hl0, rfl⟩
  generalize hg0 : ival n0 ws0 = a at hz0
  have HZ0 := Lib.hid hz0
  have HG0 := Lib.hid hg0
  clear hz0 hg0 hr0
  have HC : Hid (a = -9223372036854775808) := by simp only [HG0.out] at hc; exact hc
  clear hc
  go_enter Try.func8, Try.ntmps8
  go_wp2_with fail
  refine wp_region_D preExt mixed [IsZ (17592186043904) (a), Is (.bool true), IsZ (17592186043904) (a), Is (.int .i64 (blen (a) : Nat)), Is (.bool false), Is (.bool false), IsZ (17592186043904) (a), IsW (66) (2 ^ (63)), IsC (66) (-(2 ^ (63))), Is (.bool true), Is (.bool true), Is (.bool true)] (by kernel_rfl) ?mono rfl ?steps ?last
  case mono =>
    simp only [List.forall_mem_cons, List.not_mem_nil, false_implies, implies_true, and_true]
    refine ⟨?_, ?_, ?_, ?_, ?_, ?_, ?_, ?_, ?_, ?_, ?_, ?_⟩
    all_goals first | exact fun _ _ _ _ q => q | exact fun _ _ _ he q => q.ext he
  case steps =>
    refine ⟨?_, ?_, ?_, ?_, ?_, ?_, ?_, ?_, ?_, ?_, ?_, ?_, trivial⟩
    all_goals
      intro u0 u1 u2 u3 u4 u5 u6 u7 u8 u9 u10 u11 u12 w1 he hk
      simp [KnownD, Oper.looksAt, Op.operands, Call.operands, List.findIdx?_cons, Act.put] at hk
      simp only [Act.put, List.setIfInBounds_toArray, List.set_cons_succ, List.set_cons_zero]
    · have hb := he.block (heap_alloc_new _ _)
      have hc0 := blk_cell hb 0
      have hc1 := blk_cell hb 1
      simp at hc0 hc1
      clear hb
      go_wp2_with fail
      exact ⟨rfl, Ext.refl _, HZ0.out.ext ((Ext.alloc _ _).trans he)⟩
    · have k0 := hk
      have H0 := Lib.hid k0
      clear k0
      go_wp2_with fail
      refine (isInt_z (17592186043904) (a) _ _ (H0.out) (by omega)).mono ?_
      rintro e w2 ⟨he2, x, rfl, hx⟩
      obtain rfl : x = .bool true := hx.trans (by have := HC.out; simp [isI]; omega)
      go_wp2_with fail
      exact ⟨rfl, he2, rfl⟩
    · have hb := he.block (heap_alloc_new _ _)
      have hc0 := blk_cell hb 0
      have hc1 := blk_cell hb 1
      simp at hc0 hc1
      clear hb
      go_wp2_with fail
      exact ⟨rfl, Ext.refl _, HZ0.out.ext ((Ext.alloc _ _).trans he)⟩
    · have k0 := hk
      have H0 := Lib.hid k0
      clear k0
      go_wp2_with fail
      refine (bitLen_z (17592186043904) (a) _ _ (H0.out) (by omega)).mono ?_
      rintro e w2 ⟨he2, x, rfl, hx⟩
      obtain rfl : x = .int .i64 (blen (a) : Nat) := hx
      go_wp2_with fail
      exact ⟨rfl, he2, rfl⟩
    · have k0 := hk
      obtain rfl : u3 = .int .i64 (blen (a) : Nat) := k0
      go_wp2_with fail
      exact ⟨rfl, Ext.refl _, by show (_ : Value) = _; (rw [lim63]; have := HC.out; simp; omega); try rfl⟩
    · have k0 := hk
      obtain rfl : u4 = .bool false := k0
      go_wp2_with fail
      exact ⟨rfl, Ext.refl _, by show (_ : Value) = _; (first | rfl | simp); try rfl⟩
    · have k0 := hk
      obtain rfl : u5 = .bool false := k0
      have hb := he.block (heap_alloc_new _ _)
      have hc0 := blk_cell hb 0
      have hc1 := blk_cell hb 1
      simp at hc0 hc1
      clear hb
      go_wp2_with fail
      exact ⟨rfl, Ext.refl _, HZ0.out.ext ((Ext.alloc _ _).trans he)⟩
    · have k0 := hk
      obtain rfl : u5 = .bool false := k0
      go_wp2_with fail
      refine (power_n (63) _ (by omega)).mono ?_
      rintro e w2 ⟨he2, x, rfl, hx⟩
      have HX := Lib.hid hx
      clear hx
      go_wp2_with fail
      exact ⟨rfl, he2, HX.out⟩
    · obtain ⟨k0, k1⟩ := hk
      obtain rfl : u5 = .bool false := k1
      have H0 : Hid (IsW (66) (2 ^ (63)) u7 w1) := Lib.hid (by first | exact k0 | simpa using k0)
      clear k0
      go_wp2_with fail
      refine (neg_z (66) (2 ^ (63)) _ _ (H0.out.z) (by omega)).mono ?_
      rintro e w2 ⟨he2, x, rfl, hx⟩
      have HX := Lib.hid hx
      clear hx
      go_wp2_with fail
      exact ⟨rfl, he2, HX.out⟩
    · obtain ⟨k0, k1, k2⟩ := hk
      obtain rfl : u5 = .bool false := k2
      have H0 := Lib.hid k0
      have H1 : Hid (IsC (66) (-(2 ^ (63))) u8 w1) := Lib.hid (by first | exact k1 | simpa using k1)
      clear k0 k1
      go_wp2_with fail
      refine (same_z (17592186043904) (66) (a) (-(2 ^ (63))) _ _ _ (H0.out) (H1.out.z) (by omega) (by omega)).mono ?_
      rintro e w2 ⟨he2, x, rfl, hx⟩
      obtain rfl : x = .bool true := hx.trans (by have := HC.out; congr 1; exact decide_eq_true (by omega))
      go_wp2_with fail
      exact ⟨rfl, he2, rfl⟩
    · obtain ⟨k0, k1⟩ := hk
      obtain rfl : u5 = .bool false := k0
      obtain rfl : u9 = .bool true := k1
      go_wp2_with fail
      exact ⟨rfl, Ext.refl _, by show (_ : Value) = _; (first | rfl | simp); try rfl⟩
    · obtain ⟨k0, k1⟩ := hk
      obtain rfl : u1 = .bool true := k0
      obtain rfl : u10 = .bool true := k1
      go_wp2_with fail
      exact ⟨rfl, Ext.refl _, by show (_ : Value) = _; (simp); try rfl⟩
  case last =>
    intro w1 he u0 h0 u1 h1 u2 h2 u3 h3 u4 h4 u5 h5 u6 h6 u7 h7 u8 h8 u9 h9 u10 h10 u11 h11
    obtain rfl : u11 = .bool true := h11
    clear h0 h1 h2 h3 h4 h5 h6 h7 h8 h9 h10
    simp only [LastD, Act.put, List.setIfInBounds_toArray, List.set_cons_succ, List.set_cons_zero]
    have HE := Lib.hid ((Ext.alloc _ _).trans he)
    clear he
    go_wp2_with fail
    go_ret
    exact ⟨HE.out, rfl⟩

set_option maxHeartbeats 1000000 in
theorem fnInt64Limits_walk_3 (n0 : Bool) (v0 : Value) (ws0 : List Nat) (w : World) (hr0 : Rd .u64 w v0 ws0) (hl0 : ws0.length ≤ 17592186043904) (hc : ¬ (ival n0 ws0).natAbs < 9223372036854775808 ∧ (ival n0 ws0) ≠ -9223372036854775808) :
    Calls Try.prog 8 #[.agg #[.bool n0, v0]] w (ValR (.bool true) w) := by
  obtain ⟨a0, c0, rfl⟩ := hr0.form
  have hz0 : IsZ 17592186043904 (ival n0 ws0) (.agg #[.bool n0, .slice a0 ws0.length c0]) w := ⟨n0, _, ws0, rfl, hr0, hl0, rfl⟩
  generalize hg0 : ival n0 ws0 = a at hz0
  have HZ0 := Lib.hid hz0
  have HG0 := Lib.hid hg0
  clear hz0 hg0 hr0
  have HC : Hid (¬ a.natAbs < 9223372036854775808 ∧ a ≠ -9223372036854775808) := by simp only [HG0.out] at hc; exact hc
  clear hc
  go_enter Try.func8, Try.ntmps8
  go_wp2_with fail
  refine wp_region_D preExt mixed [IsZ (17592186043904) (a), Is (.bool false), IsZ (17592186043904) (a), Is (.int .i64 (blen (a) : Nat)), Is (.bool false), Is (.bool false), IsZ (17592186043904) (a), IsW (66) (2 ^ (63)), IsC (66) (-(2 ^ (63))), Is (.bool false), Is (.bool false), Is (.bool true)] (by kernel_rfl) ?mono rfl ?steps ?last
  case mono =>
    simp only [List.forall_mem_cons, List.not_mem_nil, false_implies, implies_true, and_true]
    refine ⟨?_, ?_, ?_, ?_, ?_, ?_, ?_, ?_, ?_, ?_, ?_, ?_⟩
    all_goals first | exact fun _ _ _ _ q => q | exact fun _ _ _ he q => q.ext he
  case steps =>
    refine ⟨?_, ?_, ?_, ?_, ?_, ?_, ?_, ?_, ?_, ?_, ?_, ?_, trivial⟩
    all_goals
      intro u0 u1 u2 u3 u4 u5 u6 u7 u8 u9 u10 u11 u12 w1 he hk
      simp [KnownD, Oper.looksAt, Op.operands, Call.operands, List.findIdx?_cons, Act.put] at hk
      simp only [Act.put, List.setIfInBounds_toArray, List.set_cons_succ, List.set_cons_zero]
    · have hb := he.block (heap_alloc_new _ _)
      have hc0 := blk_cell hb 0
      have hc1 := blk_cell hb 1
      simp at hc0 hc1
      clear hb
      go_wp2_with fail
      exact ⟨rfl, Ext.refl _, HZ0.out.ext ((Ext.alloc _ _).trans he)⟩
    · have k0 := hk
      have H0 := Lib.hid k0
      clear k0
      go_wp2_with fail
      refine (isInt_z (17592186043904) (a) _ _ (H0.out) (by omega)).mono ?_
      rintro e w2 ⟨he2, x, rfl, hx⟩
      obtain rfl : x = .bool false := hx.trans (by have := HC.out; simp [isI]; omega)
      go_wp2_with fail
      exact ⟨rfl, he2, rfl⟩
    · have hb := he.block (heap_alloc_new _ _)
      have hc0 := blk_cell hb 0
      have hc1 := blk_cell hb 1
      simp at hc0 hc1
      clear hb
      go_wp2_with fail
      exact ⟨rfl, Ext.refl _, HZ0.out.ext ((Ext.alloc _ _).trans he)⟩
    · have k0 := hk
      have H0 := Lib.hid k0
      clear k0
      go_wp2_with fail
      refine (bitLen_z (17592186043904) (a) _ _ (H0.out) (by omega)).mono ?_
      rintro e w2 ⟨he2, x, rfl, hx⟩
      obtain rfl : x = .int .i64 (blen (a) : Nat) := hx
      go_wp2_with fail
      exact ⟨rfl, he2, rfl⟩
    · have k0 := hk
      obtain rfl : u3 = .int .i64 (blen (a) : Nat) := k0
      go_wp2_with fail
      exact ⟨rfl, Ext.refl _, by show (_ : Value) = _; (rw [lim63]; have := HC.out; simp; omega); try rfl⟩
    · have k0 := hk
      obtain rfl : u4 = .bool false := k0
      go_wp2_with fail
      exact ⟨rfl, Ext.refl _, by show (_ : Value) = _; (first | rfl | simp); try rfl⟩
    · have k0 := hk
      obtain rfl : u5 = .bool false := k0
      have hb := he.block (heap_alloc_new _ _)
      have hc0 := blk_cell hb 0
      have hc1 := blk_cell hb 1
      simp at hc0 hc1
      clear hb
      go_wp2_with fail
      exact ⟨rfl, Ext.refl _, HZ0.out.ext ((Ext.alloc _ _).trans he)⟩
    · have k0 := hk
      obtain rfl : u5 = .bool false := k0
      go_wp2_with fail
      refine (power_n (63) _ (by omega)).mono ?_
      rintro e w2 ⟨he2, x, rfl, hx⟩
      have HX := Lib.hid hx
      clear hx
      go_wp2_with fail
      exact ⟨rfl, he2, HX.out⟩
    · obtain ⟨k0, k1⟩ := hk
      obtain rfl : u5 = .bool false := k1
      have H0 : Hid (IsW (66) (2 ^ (63)) u7 w1) := Lib.hid (by first | exact k0 | simpa using k0)
      clear k0
      go_wp2_with fail
      refine (neg_z (66) (2 ^ (63)) _ _ (H0.out.z) (by omega)).mono ?_
      rintro e w2 ⟨he2, x, rfl, hx⟩
      have HX := Lib.hid hx
      clear hx
      go_wp2_with fail
      exact ⟨rfl, he2, HX.out⟩
    · obtain ⟨k0, k1, k2⟩ := hk
      obtain rfl : u5 = .bool false := k2
      have H0 := Lib.hid k0
      have H1 : Hid (IsC (66) (-(2 ^ (63))) u8 w1) := Lib.hid (by first | exact k1 | simpa using k1)
      clear k0 k1
      go_wp2_with fail
      refine (same_z (17592186043904) (66) (a) (-(2 ^ (63))) _ _ _ (H0.out) (H1.out.z) (by omega) (by omega)).mono ?_
      rintro e w2 ⟨he2, x, rfl, hx⟩
      obtain rfl : x = .bool false := hx.trans (by have := HC.out; congr 1; exact decide_eq_false (by omega))
      go_wp2_with fail
      exact ⟨rfl, he2, rfl⟩
    · obtain ⟨k0, k1⟩ := hk
      obtain rfl : u5 = .bool false := k0
      obtain rfl : u9 = .bool false := k1
      go_wp2_with fail
      exact ⟨rfl, Ext.refl _, by show (_ : Value) = _; (first | rfl | simp); try rfl⟩
    · obtain ⟨k0, k1⟩ := hk
      obtain rfl : u1 = .bool false := k0
      obtain rfl : u10 = .bool false := k1
      go_wp2_with fail
      exact ⟨rfl, Ext.refl _, by show (_ : Value) = _; (simp); try rfl⟩
  case last =>
    intro w1 he u0 h0 u1 h1 u2 h2 u3 h3 u4 h4 u5 h5 u6 h6 u7 h7 u8 h8 u9 h9 u10 h10 u11 h11
    obtain rfl : u11 = .bool true := h11
    clear h0 h1 h2 h3 h4 h5 h6 h7 h8 h9 h10
    simp only [LastD, Act.put, List.setIfInBounds_toArray, List.set_cons_succ, List.set_cons_zero]
    have HE := Lib.hid ((Ext.alloc _ _).trans he)
    clear he
    go_wp2_with fail
    go_ret
    exact ⟨HE.out, rfl⟩

theorem fnInt64Limits_walk (n0 : Bool) (v0 : Value) (ws0 : List Nat) (w : World) (hr0 : Rd .u64 w v0 ws0) (hl0 : ws0.length ≤ 17592186043904) :
    Calls Try.prog 8 #[.agg #[.bool n0, v0]] w (ValR (.bool true) w) := by
  by_cases h1 : (ival n0 ws0).natAbs < 9223372036854775808
  · exact fnInt64Limits_walk_1 n0 v0 ws0 w hr0 hl0 h1
  · by_cases h2 : (ival n0 ws0) = -9223372036854775808
    · exact fnInt64Limits_walk_2 n0 v0 ws0 w hr0 hl0 h2
    · exact fnInt64Limits_walk_3 n0 v0 ws0 w hr0 hl0 ⟨h1, h2⟩

end Go.Proofs.Ytdodcmncdlnceaa

