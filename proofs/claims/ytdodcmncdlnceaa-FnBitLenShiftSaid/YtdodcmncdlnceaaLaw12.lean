/- FnLshZero, FnLshOrder, FnBitLenShift (printed by lawgen.py). -/
import Derived.Test.YtdodcmncdlnceaaLshZ
import Derived.Test.YtdodcmncdlnceaaLaw11
import Derived.Test.YtdodcmncdlnceaaCmp3
import Derived.Test.YtdodcmncdlnceaaHelpers
set_option linter.unusedSimpArgs false
set_option linter.unusedVariables false
namespace Go.Proofs.Ytdodcmncdlnceaa
open Go.RowKit

set_option maxHeartbeats 1000000 in
theorem fnLshZero_walk_1 (n0 : Bool) (v0 : Value) (ws0 : List Nat) (m : Nat) (n : Nat) (w : World) (hr0 : Rd .u64 w v0 ws0) (hl0 : ws0.length ≤ 17592186043904) (hm : 2048 < m) :
    Calls Try.prog 5 #[.agg #[.bool n0, v0], .int .u64 (m : Nat), .int .u64 (n : Nat)] w (ValR (.bool true) w) := by
  obtain ⟨a0, c0, rfl⟩ := hr0.form
  have hz0 : IsZ 17592186043904 (ival n0 ws0) (.agg #[.bool n0, .slice a0 ws0.length c0]) w := ⟨n0, _, ws0, rfl, hr0, hl0, rfl⟩
  generalize hg0 : ival n0 ws0 = a at hz0
  have HZ0 := Lib.hid hz0
  have HG0 := Lib.hid hg0
  clear hz0 hg0 hr0
  go_enter Try.func5, Try.ntmps5
  go_wp2_with fail
  refine wp_region_D preExt mixed [Is (.int .u64 (m : Nat)), Is (.bool true), Is (.bool true), Is undef, Is undef, Is (.bool true), Is (.bool true), Is undef, Is undef, Is undef, Is undef, Is undef, Is undef, Is undef, Is undef, Is undef, Is undef, Is undef, Is undef, Is undef, Is undef, Is undef, Is undef, Is undef, Is (.bool true)] (by kernel_rfl) ?mono rfl ?steps ?last
  case mono =>
    simp only [List.forall_mem_cons, List.not_mem_nil, false_implies, implies_true, and_true]
    refine ⟨?_, ?_, ?_, ?_, ?_, ?_, ?_, ?_, ?_, ?_, ?_, ?_, ?_, ?_, ?_, ?_, ?_, ?_, ?_, ?_, ?_, ?_, ?_, ?_, ?_⟩
    all_goals first | exact fun _ _ _ _ q => q | exact fun _ _ _ he q => q.ext he
  case steps =>
    refine ⟨?_, ?_, ?_, ?_, ?_, ?_, ?_, ?_, ?_, ?_, ?_, ?_, ?_, ?_, ?_, ?_, ?_, ?_, ?_, ?_, ?_, ?_, ?_, ?_, ?_, trivial⟩
    all_goals
      intro u0 u1 u2 u3 u4 u5 u6 u7 u8 u9 u10 u11 u12 u13 u14 u15 u16 u17 u18 u19 u20 u21 u22 u23 u24 u25 w1 he hk
      simp [KnownD, Oper.looksAt, Op.operands, Call.operands, List.findIdx?_cons, Act.put] at hk
      simp only [Act.put, List.setIfInBounds_toArray, List.set_cons_succ, List.set_cons_zero]
    · go_wp2_with fail
      exact ⟨rfl, Ext.refl _, by show (_ : Value) = _; (first | rfl | simp); try rfl⟩
    · have k0 := hk
      obtain rfl : u0 = .int .u64 (m : Nat) := k0
      go_wp2_with fail
      exact ⟨rfl, Ext.refl _, by show (_ : Value) = _; (simp; omega); try rfl⟩
    · have k0 := hk
      obtain rfl : u1 = .bool true := k0
      go_wp2_with fail
      exact ⟨rfl, Ext.refl _, by show (_ : Value) = _; (first | rfl | simp); try rfl⟩
    · have k0 := hk
      obtain rfl : u2 = .bool true := k0
      go_wp2_with fail
      exact ⟨rfl, Ext.refl _, rfl⟩
    · obtain ⟨k0, k1⟩ := hk
      obtain rfl : u3 = undef := k0
      obtain rfl : u2 = .bool true := k1
      go_wp2_with fail
      exact ⟨rfl, Ext.refl _, rfl⟩
    · obtain ⟨k0, k1⟩ := hk
      obtain rfl : u2 = .bool true := k0
      obtain rfl : u4 = undef := k1
      go_wp2_with fail
      exact ⟨rfl, Ext.refl _, by show (_ : Value) = _; (first | rfl | simp); try rfl⟩
    · have k0 := hk
      obtain rfl : u5 = .bool true := k0
      go_wp2_with fail
      exact ⟨rfl, Ext.refl _, by show (_ : Value) = _; (first | rfl | simp); try rfl⟩
    · have k0 := hk
      obtain rfl : u6 = .bool true := k0
      go_wp2_with fail
      exact ⟨rfl, Ext.refl _, rfl⟩
    · obtain ⟨k0, k1⟩ := hk
      obtain rfl : u7 = undef := k0
      obtain rfl : u6 = .bool true := k1
      go_wp2_with fail
      exact ⟨rfl, Ext.refl _, rfl⟩
    · have k0 := hk
      obtain rfl : u6 = .bool true := k0
      go_wp2_with fail
      exact ⟨rfl, Ext.refl _, rfl⟩
    · obtain ⟨k0, k1, k2⟩ := hk
      obtain rfl : u8 = undef := k0
      obtain rfl : u9 = undef := k1
      obtain rfl : u6 = .bool true := k2
      go_wp2_with fail
      exact ⟨rfl, Ext.refl _, rfl⟩
    · obtain ⟨k0, k1⟩ := hk
      obtain rfl : u10 = undef := k0
      obtain rfl : u6 = .bool true := k1
      go_wp2_with fail
      exact ⟨rfl, Ext.refl _, rfl⟩
    · have k0 := hk
      obtain rfl : u11 = undef := k0
      go_wp2_with fail
      exact ⟨rfl, Ext.refl _, rfl⟩
    · have k0 := hk
      obtain rfl : u11 = undef := k0
      go_wp2_with fail
      exact ⟨rfl, Ext.refl _, rfl⟩
    · obtain ⟨k0, k1, k2⟩ := hk
      obtain rfl : u12 = undef := k0
      obtain rfl : u13 = undef := k1
      obtain rfl : u11 = undef := k2
      go_wp2_with fail
      exact ⟨rfl, Ext.refl _, rfl⟩
    · have k0 := hk
      obtain rfl : u11 = undef := k0
      go_wp2_with fail
      exact ⟨rfl, Ext.refl _, rfl⟩
    · obtain ⟨k0, k1, k2⟩ := hk
      obtain rfl : u14 = undef := k0
      obtain rfl : u15 = undef := k1
      obtain rfl : u11 = undef := k2
      go_wp2_with fail
      exact ⟨rfl, Ext.refl _, rfl⟩
    · have k0 := hk
      obtain rfl : u11 = undef := k0
      go_wp2_with fail
      exact ⟨rfl, Ext.refl _, rfl⟩
    · have k0 := hk
      obtain rfl : u11 = undef := k0
      go_wp2_with fail
      exact ⟨rfl, Ext.refl _, rfl⟩
    · have k0 := hk
      obtain rfl : u11 = undef := k0
      go_wp2_with fail
      exact ⟨rfl, Ext.refl _, rfl⟩
    · obtain ⟨k0, k1, k2⟩ := hk
      obtain rfl : u18 = undef := k0
      obtain rfl : u19 = undef := k1
      obtain rfl : u11 = undef := k2
      go_wp2_with fail
      exact ⟨rfl, Ext.refl _, rfl⟩
    · obtain ⟨k0, k1, k2⟩ := hk
      obtain rfl : u17 = undef := k0
      obtain rfl : u20 = undef := k1
      obtain rfl : u11 = undef := k2
      go_wp2_with fail
      exact ⟨rfl, Ext.refl _, rfl⟩
    · obtain ⟨k0, k1, k2⟩ := hk
      obtain rfl : u16 = undef := k0
      obtain rfl : u21 = undef := k1
      obtain rfl : u11 = undef := k2
      go_wp2_with fail
      exact ⟨rfl, Ext.refl _, rfl⟩
    · obtain ⟨k0, k1, k2⟩ := hk
      obtain rfl : u11 = undef := k0
      obtain rfl : u22 = undef := k1
      obtain rfl : u6 = .bool true := k2
      go_wp2_with fail
      exact ⟨rfl, Ext.refl _, rfl⟩
    · obtain ⟨k0, k1⟩ := hk
      obtain rfl : u6 = .bool true := k0
      obtain rfl : u23 = undef := k1
      go_wp2_with fail
      exact ⟨rfl, Ext.refl _, by show (_ : Value) = _; (first | rfl | simp); try rfl⟩
  case last =>
    intro w1 he u0 h0 u1 h1 u2 h2 u3 h3 u4 h4 u5 h5 u6 h6 u7 h7 u8 h8 u9 h9 u10 h10 u11 h11 u12 h12 u13 h13 u14 h14 u15 h15 u16 h16 u17 h17 u18 h18 u19 h19 u20 h20 u21 h21 u22 h22 u23 h23 u24 h24
    obtain rfl : u24 = .bool true := h24
    clear h0 h1 h2 h3 h4 h5 h6 h7 h8 h9 h10 h11 h12 h13 h14 h15 h16 h17 h18 h19 h20 h21 h22 h23
    simp only [LastD, Act.put, List.setIfInBounds_toArray, List.set_cons_succ, List.set_cons_zero]
    have HE := Lib.hid ((Ext.alloc _ _).trans he)
    clear he
    go_wp2_with fail
    go_ret
    exact ⟨HE.out, rfl⟩

set_option maxHeartbeats 1000000 in
theorem fnLshZero_walk_2 (n0 : Bool) (v0 : Value) (ws0 : List Nat) (m : Nat) (n : Nat) (w : World) (hr0 : Rd .u64 w v0 ws0) (hl0 : ws0.length ≤ 17592186043904) (hm : m ≤ 2048) (hn : 2048 < n) :
    Calls Try.prog 5 #[.agg #[.bool n0, v0], .int .u64 (m : Nat), .int .u64 (n : Nat)] w (ValR (.bool true) w) := by
  obtain ⟨a0, c0, rfl⟩ := hr0.form
  have hz0 : IsZ 17592186043904 (ival n0 ws0) (.agg #[.bool n0, .slice a0 ws0.length c0]) w := ⟨n0, _, ws0, rfl, hr0, hl0, rfl⟩
  generalize hg0 : ival n0 ws0 = a at hz0
  have HZ0 := Lib.hid hz0
  have HG0 := Lib.hid hg0
  clear hz0 hg0 hr0
  go_enter Try.func5, Try.ntmps5
  go_wp2_with fail
  refine wp_region_D preExt mixed [Is (.int .u64 (m : Nat)), Is (.bool false), Is (.bool false), Is (.int .u64 (n : Nat)), Is (.bool true), Is (.bool true), Is (.bool true), Is undef, Is undef, Is undef, Is undef, Is undef, Is undef, Is undef, Is undef, Is undef, Is undef, Is undef, Is undef, Is undef, Is undef, Is undef, Is undef, Is undef, Is (.bool true)] (by kernel_rfl) ?mono rfl ?steps ?last
  case mono =>
    simp only [List.forall_mem_cons, List.not_mem_nil, false_implies, implies_true, and_true]
    refine ⟨?_, ?_, ?_, ?_, ?_, ?_, ?_, ?_, ?_, ?_, ?_, ?_, ?_, ?_, ?_, ?_, ?_, ?_, ?_, ?_, ?_, ?_, ?_, ?_, ?_⟩
    all_goals first | exact fun _ _ _ _ q => q | exact fun _ _ _ he q => q.ext he
  case steps =>
    refine ⟨?_, ?_, ?_, ?_, ?_, ?_, ?_, ?_, ?_, ?_, ?_, ?_, ?_, ?_, ?_, ?_, ?_, ?_, ?_, ?_, ?_, ?_, ?_, ?_, ?_, trivial⟩
    all_goals
      intro u0 u1 u2 u3 u4 u5 u6 u7 u8 u9 u10 u11 u12 u13 u14 u15 u16 u17 u18 u19 u20 u21 u22 u23 u24 u25 w1 he hk
      simp [KnownD, Oper.looksAt, Op.operands, Call.operands, List.findIdx?_cons, Act.put] at hk
      simp only [Act.put, List.setIfInBounds_toArray, List.set_cons_succ, List.set_cons_zero]
    · go_wp2_with fail
      exact ⟨rfl, Ext.refl _, by show (_ : Value) = _; (first | rfl | simp); try rfl⟩
    · have k0 := hk
      obtain rfl : u0 = .int .u64 (m : Nat) := k0
      go_wp2_with fail
      exact ⟨rfl, Ext.refl _, by show (_ : Value) = _; (simp; omega); try rfl⟩
    · have k0 := hk
      obtain rfl : u1 = .bool false := k0
      go_wp2_with fail
      exact ⟨rfl, Ext.refl _, by show (_ : Value) = _; (first | rfl | simp); try rfl⟩
    · have k0 := hk
      obtain rfl : u2 = .bool false := k0
      go_wp2_with fail
      exact ⟨rfl, Ext.refl _, by show (_ : Value) = _; (first | rfl | simp); try rfl⟩
    · obtain ⟨k0, k1⟩ := hk
      obtain rfl : u3 = .int .u64 (n : Nat) := k0
      obtain rfl : u2 = .bool false := k1
      go_wp2_with fail
      exact ⟨rfl, Ext.refl _, by show (_ : Value) = _; (simp; omega); try rfl⟩
    · obtain ⟨k0, k1⟩ := hk
      obtain rfl : u2 = .bool false := k0
      obtain rfl : u4 = .bool true := k1
      go_wp2_with fail
      exact ⟨rfl, Ext.refl _, by show (_ : Value) = _; (first | rfl | simp); try rfl⟩
    · have k0 := hk
      obtain rfl : u5 = .bool true := k0
      go_wp2_with fail
      exact ⟨rfl, Ext.refl _, by show (_ : Value) = _; (first | rfl | simp); try rfl⟩
    · have k0 := hk
      obtain rfl : u6 = .bool true := k0
      go_wp2_with fail
      exact ⟨rfl, Ext.refl _, rfl⟩
    · obtain ⟨k0, k1⟩ := hk
      obtain rfl : u7 = undef := k0
      obtain rfl : u6 = .bool true := k1
      go_wp2_with fail
      exact ⟨rfl, Ext.refl _, rfl⟩
    · have k0 := hk
      obtain rfl : u6 = .bool true := k0
      go_wp2_with fail
      exact ⟨rfl, Ext.refl _, rfl⟩
    · obtain ⟨k0, k1, k2⟩ := hk
      obtain rfl : u8 = undef := k0
      obtain rfl : u9 = undef := k1
      obtain rfl : u6 = .bool true := k2
      go_wp2_with fail
      exact ⟨rfl, Ext.refl _, rfl⟩
    · obtain ⟨k0, k1⟩ := hk
      obtain rfl : u10 = undef := k0
      obtain rfl : u6 = .bool true := k1
      go_wp2_with fail
      exact ⟨rfl, Ext.refl _, rfl⟩
    · have k0 := hk
      obtain rfl : u11 = undef := k0
      go_wp2_with fail
      exact ⟨rfl, Ext.refl _, rfl⟩
    · have k0 := hk
      obtain rfl : u11 = undef := k0
      go_wp2_with fail
      exact ⟨rfl, Ext.refl _, rfl⟩
    · obtain ⟨k0, k1, k2⟩ := hk
      obtain rfl : u12 = undef := k0
      obtain rfl : u13 = undef := k1
      obtain rfl : u11 = undef := k2
      go_wp2_with fail
      exact ⟨rfl, Ext.refl _, rfl⟩
    · have k0 := hk
      obtain rfl : u11 = undef := k0
      go_wp2_with fail
      exact ⟨rfl, Ext.refl _, rfl⟩
    · obtain ⟨k0, k1, k2⟩ := hk
      obtain rfl : u14 = undef := k0
      obtain rfl : u15 = undef := k1
      obtain rfl : u11 = undef := k2
      go_wp2_with fail
      exact ⟨rfl, Ext.refl _, rfl⟩
    · have k0 := hk
      obtain rfl : u11 = undef := k0
      go_wp2_with fail
      exact ⟨rfl, Ext.refl _, rfl⟩
    · have k0 := hk
      obtain rfl : u11 = undef := k0
      go_wp2_with fail
      exact ⟨rfl, Ext.refl _, rfl⟩
    · have k0 := hk
      obtain rfl : u11 = undef := k0
      go_wp2_with fail
      exact ⟨rfl, Ext.refl _, rfl⟩
    · obtain ⟨k0, k1, k2⟩ := hk
      obtain rfl : u18 = undef := k0
      obtain rfl : u19 = undef := k1
      obtain rfl : u11 = undef := k2
      go_wp2_with fail
      exact ⟨rfl, Ext.refl _, rfl⟩
    · obtain ⟨k0, k1, k2⟩ := hk
      obtain rfl : u17 = undef := k0
      obtain rfl : u20 = undef := k1
      obtain rfl : u11 = undef := k2
      go_wp2_with fail
      exact ⟨rfl, Ext.refl _, rfl⟩
    · obtain ⟨k0, k1, k2⟩ := hk
      obtain rfl : u16 = undef := k0
      obtain rfl : u21 = undef := k1
      obtain rfl : u11 = undef := k2
      go_wp2_with fail
      exact ⟨rfl, Ext.refl _, rfl⟩
    · obtain ⟨k0, k1, k2⟩ := hk
      obtain rfl : u11 = undef := k0
      obtain rfl : u22 = undef := k1
      obtain rfl : u6 = .bool true := k2
      go_wp2_with fail
      exact ⟨rfl, Ext.refl _, rfl⟩
    · obtain ⟨k0, k1⟩ := hk
      obtain rfl : u6 = .bool true := k0
      obtain rfl : u23 = undef := k1
      go_wp2_with fail
      exact ⟨rfl, Ext.refl _, by show (_ : Value) = _; (first | rfl | simp); try rfl⟩
  case last =>
    intro w1 he u0 h0 u1 h1 u2 h2 u3 h3 u4 h4 u5 h5 u6 h6 u7 h7 u8 h8 u9 h9 u10 h10 u11 h11 u12 h12 u13 h13 u14 h14 u15 h15 u16 h16 u17 h17 u18 h18 u19 h19 u20 h20 u21 h21 u22 h22 u23 h23 u24 h24
    obtain rfl : u24 = .bool true := h24
    clear h0 h1 h2 h3 h4 h5 h6 h7 h8 h9 h10 h11 h12 h13 h14 h15 h16 h17 h18 h19 h20 h21 h22 h23
    simp only [LastD, Act.put, List.setIfInBounds_toArray, List.set_cons_succ, List.set_cons_zero]
    have HE := Lib.hid ((Ext.alloc _ _).trans he)
    clear he
    go_wp2_with fail
    go_ret
    exact ⟨HE.out, rfl⟩

set_option maxHeartbeats 1000000 in
theorem fnLshZero_walk_3 (n0 : Bool) (v0 : Value) (ws0 : List Nat) (m : Nat) (n : Nat) (w : World) (hr0 : Rd .u64 w v0 ws0) (hl0 : ws0.length ≤ 17592186043904) (hm : m ≤ 2048) (hn : n ≤ 2048) :
    Calls Try.prog 5 #[.agg #[.bool n0, v0], .int .u64 (m : Nat), .int .u64 (n : Nat)] w (ValR (.bool true) w) := by
  obtain ⟨a0, c0, rfl⟩ := hr0.form
  have hz0 : IsZ 17592186043904 (ival n0 ws0) (.agg #[.bool n0, .slice a0 ws0.length c0]) w := ⟨n0, _, ws0, rfl, hr0, hl0, rfl⟩
  generalize hg0 : ival n0 ws0 = a at hz0
  have HZ0 := Lib.hid hz0
  have HG0 := Lib.hid hg0
  clear hz0 hg0 hr0
  go_enter Try.func5, Try.ntmps5
  go_wp2_with fail
  refine wp_region_D preExt mixed [Is (.int .u64 (m : Nat)), Is (.bool false), Is (.bool false), Is (.int .u64 (n : Nat)), Is (.bool false), Is (.bool false), Is (.bool false), IsZ (17592186043904) (a), IsC (17592186043969) ((a) * 2 ^ (0)), IsZ (17592186043904) (a), Is (.bool true), Is (.bool true), IsZ (17592186043904) (a), Is (.int .u64 (m : Nat)), IsC (17592186043969) ((a) * 2 ^ (m)), Is (.int .u64 (n : Nat)), IsC (17592186044034) (((a) * 2 ^ (m)) * 2 ^ (n)), IsZ (17592186043904) (a), Is (.int .u64 (m : Nat)), Is (.int .u64 (n : Nat)), Is (.int .u64 (m + n : Nat)), IsC (17592186043969) ((a) * 2 ^ (m + n)), Is (.bool true), Is (.bool true), Is (.bool true)] (by kernel_rfl) ?mono rfl ?steps ?last
  case mono =>
    simp only [List.forall_mem_cons, List.not_mem_nil, false_implies, implies_true, and_true]
    refine ⟨?_, ?_, ?_, ?_, ?_, ?_, ?_, ?_, ?_, ?_, ?_, ?_, ?_, ?_, ?_, ?_, ?_, ?_, ?_, ?_, ?_, ?_, ?_, ?_, ?_⟩
    all_goals first | exact fun _ _ _ _ q => q | exact fun _ _ _ he q => q.ext he
  case steps =>
    refine ⟨?_, ?_, ?_, ?_, ?_, ?_, ?_, ?_, ?_, ?_, ?_, ?_, ?_, ?_, ?_, ?_, ?_, ?_, ?_, ?_, ?_, ?_, ?_, ?_, ?_, trivial⟩
    all_goals
      intro u0 u1 u2 u3 u4 u5 u6 u7 u8 u9 u10 u11 u12 u13 u14 u15 u16 u17 u18 u19 u20 u21 u22 u23 u24 u25 w1 he hk
      simp [KnownD, Oper.looksAt, Op.operands, Call.operands, List.findIdx?_cons, Act.put] at hk
      simp only [Act.put, List.setIfInBounds_toArray, List.set_cons_succ, List.set_cons_zero]
    · go_wp2_with fail
      exact ⟨rfl, Ext.refl _, by show (_ : Value) = _; (first | rfl | simp); try rfl⟩
    · have k0 := hk
      obtain rfl : u0 = .int .u64 (m : Nat) := k0
      go_wp2_with fail
      exact ⟨rfl, Ext.refl _, by show (_ : Value) = _; (simp; omega); try rfl⟩
    · have k0 := hk
      obtain rfl : u1 = .bool false := k0
      go_wp2_with fail
      exact ⟨rfl, Ext.refl _, by show (_ : Value) = _; (first | rfl | simp); try rfl⟩
    · have k0 := hk
      obtain rfl : u2 = .bool false := k0
      go_wp2_with fail
      exact ⟨rfl, Ext.refl _, by show (_ : Value) = _; (first | rfl | simp); try rfl⟩
    · obtain ⟨k0, k1⟩ := hk
      obtain rfl : u3 = .int .u64 (n : Nat) := k0
      obtain rfl : u2 = .bool false := k1
      go_wp2_with fail
      exact ⟨rfl, Ext.refl _, by show (_ : Value) = _; (simp; omega); try rfl⟩
    · obtain ⟨k0, k1⟩ := hk
      obtain rfl : u2 = .bool false := k0
      obtain rfl : u4 = .bool false := k1
      go_wp2_with fail
      exact ⟨rfl, Ext.refl _, by show (_ : Value) = _; (first | rfl | simp); try rfl⟩
    · have k0 := hk
      obtain rfl : u5 = .bool false := k0
      go_wp2_with fail
      exact ⟨rfl, Ext.refl _, by show (_ : Value) = _; (first | rfl | simp); try rfl⟩
    · have k0 := hk
      obtain rfl : u6 = .bool false := k0
      have hb := he.block (heap_alloc_new _ _)
      have hc0 := blk_cell hb 0
      have hc1 := blk_cell hb 1
      simp at hc0 hc1
      clear hb
      go_wp2_with fail
      exact ⟨rfl, Ext.refl _, HZ0.out.ext ((Ext.alloc _ _).trans he)⟩
    · obtain ⟨k0, k1⟩ := hk
      obtain rfl : u6 = .bool false := k1
      have H0 := Lib.hid k0
      clear k0
      go_wp2_with fail
      refine (lsh_n (17592186043904) (a) (0) _ _ (H0.out) (by omega) (by omega)).mono ?_
      rintro e w2 ⟨he2, x, rfl, hx⟩
      have HX := Lib.hid hx
      clear hx
      go_wp2_with fail
      exact ⟨rfl, he2, HX.out⟩
    · have k0 := hk
      obtain rfl : u6 = .bool false := k0
      have hb := he.block (heap_alloc_new _ _)
      have hc0 := blk_cell hb 0
      have hc1 := blk_cell hb 1
      simp at hc0 hc1
      clear hb
      go_wp2_with fail
      exact ⟨rfl, Ext.refl _, HZ0.out.ext ((Ext.alloc _ _).trans he)⟩
    · obtain ⟨k0, k1, k2⟩ := hk
      obtain rfl : u6 = .bool false := k2
      have H0 : Hid (IsC (17592186043969) ((a) * 2 ^ (0)) u8 w1) := Lib.hid (by first | exact k0 | simpa using k0)
      have H1 := Lib.hid k1
      clear k0 k1
      go_wp2_with fail
      refine (same_z (17592186043969) (17592186043904) ((a) * 2 ^ (0)) (a) _ _ _ (H0.out.z) (H1.out) (by omega) (by omega)).mono ?_
      rintro e w2 ⟨he2, x, rfl, hx⟩
      obtain rfl : x = .bool true := hx.trans (by simp)
      go_wp2_with fail
      exact ⟨rfl, he2, rfl⟩
    · obtain ⟨k0, k1⟩ := hk
      obtain rfl : u10 = .bool true := k0
      obtain rfl : u6 = .bool false := k1
      go_wp2_with fail
      exact ⟨rfl, Ext.refl _, by show (_ : Value) = _; (first | rfl | simp); try rfl⟩
    · have k0 := hk
      obtain rfl : u11 = .bool true := k0
      have hb := he.block (heap_alloc_new _ _)
      have hc0 := blk_cell hb 0
      have hc1 := blk_cell hb 1
      simp at hc0 hc1
      clear hb
      go_wp2_with fail
      exact ⟨rfl, Ext.refl _, HZ0.out.ext ((Ext.alloc _ _).trans he)⟩
    · have k0 := hk
      obtain rfl : u11 = .bool true := k0
      go_wp2_with fail
      exact ⟨rfl, Ext.refl _, by show (_ : Value) = _; (first | rfl | simp); try rfl⟩
    · obtain ⟨k0, k1, k2⟩ := hk
      obtain rfl : u13 = .int .u64 (m : Nat) := k1
      obtain rfl : u11 = .bool true := k2
      have H0 := Lib.hid k0
      clear k0
      go_wp2_with fail
      refine (lsh_n (17592186043904) (a) (m) _ _ (H0.out) (by omega) (by omega)).mono ?_
      rintro e w2 ⟨he2, x, rfl, hx⟩
      have HX := Lib.hid hx
      clear hx
      go_wp2_with fail
      exact ⟨rfl, he2, HX.out⟩
    · have k0 := hk
      obtain rfl : u11 = .bool true := k0
      go_wp2_with fail
      exact ⟨rfl, Ext.refl _, by show (_ : Value) = _; (first | rfl | simp); try rfl⟩
    · obtain ⟨k0, k1, k2⟩ := hk
      obtain rfl : u15 = .int .u64 (n : Nat) := k1
      obtain rfl : u11 = .bool true := k2
      have H0 : Hid (IsC (17592186043969) ((a) * 2 ^ (m)) u14 w1) := Lib.hid (by first | exact k0 | simpa using k0)
      clear k0
      go_wp2_with fail
      refine (lsh_n (17592186043969) ((a) * 2 ^ (m)) (n) _ _ (H0.out.z) (by omega) (by omega)).mono ?_
      rintro e w2 ⟨he2, x, rfl, hx⟩
      have HX := Lib.hid hx
      clear hx
      go_wp2_with fail
      exact ⟨rfl, he2, HX.out⟩
    · have k0 := hk
      obtain rfl : u11 = .bool true := k0
      have hb := he.block (heap_alloc_new _ _)
      have hc0 := blk_cell hb 0
      have hc1 := blk_cell hb 1
      simp at hc0 hc1
      clear hb
      go_wp2_with fail
      exact ⟨rfl, Ext.refl _, HZ0.out.ext ((Ext.alloc _ _).trans he)⟩
    · have k0 := hk
      obtain rfl : u11 = .bool true := k0
      go_wp2_with fail
      exact ⟨rfl, Ext.refl _, by show (_ : Value) = _; (first | rfl | simp); try rfl⟩
    · have k0 := hk
      obtain rfl : u11 = .bool true := k0
      go_wp2_with fail
      exact ⟨rfl, Ext.refl _, by show (_ : Value) = _; (first | rfl | simp); try rfl⟩
    · obtain ⟨k0, k1, k2⟩ := hk
      obtain rfl : u18 = .int .u64 (m : Nat) := k0
      obtain rfl : u19 = .int .u64 (n : Nat) := k1
      obtain rfl : u11 = .bool true := k2
      go_wp2_with fail
      exact ⟨rfl, Ext.refl _, by show (_ : Value) = _; (first | rfl | simp); try rfl⟩
    · obtain ⟨k0, k1, k2⟩ := hk
      obtain rfl : u20 = .int .u64 (m + n : Nat) := k1
      obtain rfl : u11 = .bool true := k2
      have H0 := Lib.hid k0
      clear k0
      go_wp2_with fail
      refine (lsh_n (17592186043904) (a) (m + n) _ _ (H0.out) (by omega) (by omega)).mono ?_
      rintro e w2 ⟨he2, x, rfl, hx⟩
      have HX := Lib.hid hx
      clear hx
      go_wp2_with fail
      exact ⟨rfl, he2, HX.out⟩
    · obtain ⟨k0, k1, k2⟩ := hk
      obtain rfl : u11 = .bool true := k2
      have H0 : Hid (IsC (17592186044034) (((a) * 2 ^ (m)) * 2 ^ (n)) u16 w1) := Lib.hid (by first | exact k0 | simpa using k0)
      have H1 : Hid (IsC (17592186043969) ((a) * 2 ^ (m + n)) u21 w1) := Lib.hid (by first | exact k1 | simpa using k1)
      clear k0 k1
      go_wp2_with fail
      refine (same_z (17592186044034) (17592186043969) (((a) * 2 ^ (m)) * 2 ^ (n)) ((a) * 2 ^ (m + n)) _ _ _ (H0.out.z) (H1.out.z) (by omega) (by omega)).mono ?_
      rintro e w2 ⟨he2, x, rfl, hx⟩
      obtain rfl : x = .bool true := hx.trans (by congr 1; exact decide_eq_true (by rw [Int.pow_add, Int.mul_assoc]))
      go_wp2_with fail
      exact ⟨rfl, he2, rfl⟩
    · obtain ⟨k0, k1, k2⟩ := hk
      obtain rfl : u11 = .bool true := k0
      obtain rfl : u22 = .bool true := k1
      obtain rfl : u6 = .bool false := k2
      go_wp2_with fail
      exact ⟨rfl, Ext.refl _, by show (_ : Value) = _; (first | rfl | simp); try rfl⟩
    · obtain ⟨k0, k1⟩ := hk
      obtain rfl : u6 = .bool false := k0
      obtain rfl : u23 = .bool true := k1
      go_wp2_with fail
      exact ⟨rfl, Ext.refl _, by show (_ : Value) = _; (first | rfl | simp); try rfl⟩
  case last =>
    intro w1 he u0 h0 u1 h1 u2 h2 u3 h3 u4 h4 u5 h5 u6 h6 u7 h7 u8 h8 u9 h9 u10 h10 u11 h11 u12 h12 u13 h13 u14 h14 u15 h15 u16 h16 u17 h17 u18 h18 u19 h19 u20 h20 u21 h21 u22 h22 u23 h23 u24 h24
    obtain rfl : u24 = .bool true := h24
    clear h0 h1 h2 h3 h4 h5 h6 h7 h8 h9 h10 h11 h12 h13 h14 h15 h16 h17 h18 h19 h20 h21 h22 h23
    simp only [LastD, Act.put, List.setIfInBounds_toArray, List.set_cons_succ, List.set_cons_zero]
    have HE := Lib.hid ((Ext.alloc _ _).trans he)
    clear he
    go_wp2_with fail
    go_ret
    exact ⟨HE.out, rfl⟩

theorem fnLshZero_walk (n0 : Bool) (v0 : Value) (ws0 : List Nat) (m : Int) (n : Int) (w : World) (hr0 : Rd .u64 w v0 ws0) (hl0 : ws0.length ≤ 17592186043904) (hm : (Lit.int .u64 m).wf = true) (hn : (Lit.int .u64 n).wf = true) :
    Calls Try.prog 5 #[.agg #[.bool n0, v0], .int .u64 m, .int .u64 n] w (ValR (.bool true) w) := by
  obtain ⟨m, rfl, hm⟩ := u64_nat hm
  obtain ⟨n, rfl, hn⟩ := u64_nat hn
  by_cases h1 : m ≤ 2048
  · by_cases h2 : n ≤ 2048
    · exact fnLshZero_walk_3 n0 v0 ws0 m n w hr0 hl0 h1 h2
    · exact fnLshZero_walk_2 n0 v0 ws0 m n w hr0 hl0 h1 (by omega)
  · exact fnLshZero_walk_1 n0 v0 ws0 m n w hr0 hl0 (by omega)

set_option maxHeartbeats 1000000 in
theorem fnLshOrder_walk_1 (n0 : Bool) (v0 : Value) (ws0 : List Nat) (n1 : Bool) (v1 : Value) (ws1 : List Nat) (n : Nat) (w : World) (hr0 : Rd .u64 w v0 ws0) (hl0 : ws0.length ≤ 17592186043904) (hr1 : Rd .u64 w v1 ws1) (hl1 : ws1.length ≤ 17592186043904) (hn : 4096 < n) :
    Calls Try.prog 9 #[.agg #[.bool n0, v0], .agg #[.bool n1, v1], .int .u64 (n : Nat)] w (ValR (.bool true) w) := by
  obtain ⟨a0, c0, rfl⟩ := hr0.form
  have hz0 : IsZ 17592186043904 (ival n0 ws0) (.agg #[.bool n0, .slice a0 ws0.length c0]) w := ⟨n0, _, ws0, rfl, hr0, hl0, rfl⟩
  generalize hg0 : ival n0 ws0 = a at hz0
  have HZ0 := Lib.hid hz0
  have HG0 := Lib.hid hg0
  clear hz0 hg0 hr0
  obtain ⟨a1, c1, rfl⟩ := hr1.form
  have hz1 : IsZ 17592186043904 (ival n1 ws1) (.agg #[.bool n1, .slice a1 ws1.length c1]) w := ⟨n1, _, ws1, rfl, hr1, hl1, rfl⟩
  generalize hg1 : ival n1 ws1 = b at hz1
  have HZ1 := Lib.hid hz1
  have HG1 := Lib.hid hg1
  clear hz1 hg1 hr1
  go_enter Try.func9, Try.ntmps9
  go_wp2_with fail
  refine wp_region_D preExt mixed [Is (.int .u64 (n : Nat)), Is (.bool true), Is (.bool true), Is undef, Is undef, Is undef, Is undef, Is undef, Is undef, Is undef, Is undef, Is undef, Is undef, Is undef, Is undef, Is undef, Is undef, Is undef, Is undef, Is undef, Is undef, Is undef, Is undef, Is undef, Is undef, Is undef, Is undef, Is undef, Is undef, Is undef, Is undef, Is undef, Is undef, Is (.bool true)] (by kernel_rfl) ?mono rfl ?steps ?last
  case mono =>
    simp only [List.forall_mem_cons, List.not_mem_nil, false_implies, implies_true, and_true]
    refine ⟨?_, ?_, ?_, ?_, ?_, ?_, ?_, ?_, ?_, ?_, ?_, ?_, ?_, ?_, ?_, ?_, ?_, ?_, ?_, ?_, ?_, ?_, ?_, ?_, ?_, ?_, ?_, ?_, ?_, ?_, ?_, ?_, ?_, ?_⟩
    all_goals first | exact fun _ _ _ _ q => q | exact fun _ _ _ he q => q.ext he
  case steps =>
    refine ⟨?_, ?_, ?_, ?_, ?_, ?_, ?_, ?_, ?_, ?_, ?_, ?_, ?_, ?_, ?_, ?_, ?_, ?_, ?_, ?_, ?_, ?_, ?_, ?_, ?_, ?_, ?_, ?_, ?_, ?_, ?_, ?_, ?_, ?_, trivial⟩
    all_goals
      intro u0 u1 u2 u3 u4 u5 u6 u7 u8 u9 u10 u11 u12 u13 u14 u15 u16 u17 u18 u19 u20 u21 u22 u23 u24 u25 u26 u27 u28 u29 u30 u31 u32 u33 u34 w1 he hk
      simp [KnownD, Oper.looksAt, Op.operands, Call.operands, List.findIdx?_cons, Act.put] at hk
      simp only [Act.put, List.setIfInBounds_toArray, List.set_cons_succ, List.set_cons_zero]
    · go_wp2_with fail
      exact ⟨rfl, Ext.refl _, by show (_ : Value) = _; (first | rfl | simp); try rfl⟩
    · have k0 := hk
      obtain rfl : u0 = .int .u64 (n : Nat) := k0
      go_wp2_with fail
      exact ⟨rfl, Ext.refl _, by show (_ : Value) = _; (simp; omega); try rfl⟩
    · have k0 := hk
      obtain rfl : u1 = .bool true := k0
      go_wp2_with fail
      exact ⟨rfl, Ext.refl _, by show (_ : Value) = _; (first | rfl | simp); try rfl⟩
    · have k0 := hk
      obtain rfl : u2 = .bool true := k0
      go_wp2_with fail
      exact ⟨rfl, Ext.refl _, rfl⟩
    · have k0 := hk
      obtain rfl : u2 = .bool true := k0
      go_wp2_with fail
      exact ⟨rfl, Ext.refl _, rfl⟩
    · obtain ⟨k0, k1, k2⟩ := hk
      obtain rfl : u3 = undef := k0
      obtain rfl : u4 = undef := k1
      obtain rfl : u2 = .bool true := k2
      go_wp2_with fail
      exact ⟨rfl, Ext.refl _, rfl⟩
    · obtain ⟨k0, k1⟩ := hk
      obtain rfl : u5 = undef := k0
      obtain rfl : u2 = .bool true := k1
      go_wp2_with fail
      exact ⟨rfl, Ext.refl _, rfl⟩
    · have k0 := hk
      obtain rfl : u2 = .bool true := k0
      go_wp2_with fail
      exact ⟨rfl, Ext.refl _, rfl⟩
    · have k0 := hk
      obtain rfl : u2 = .bool true := k0
      go_wp2_with fail
      exact ⟨rfl, Ext.refl _, rfl⟩
    · obtain ⟨k0, k1, k2⟩ := hk
      obtain rfl : u7 = undef := k0
      obtain rfl : u8 = undef := k1
      obtain rfl : u2 = .bool true := k2
      go_wp2_with fail
      exact ⟨rfl, Ext.refl _, rfl⟩
    · obtain ⟨k0, k1, k2⟩ := hk
      obtain rfl : u6 = undef := k0
      obtain rfl : u9 = undef := k1
      obtain rfl : u2 = .bool true := k2
      go_wp2_with fail
      exact ⟨rfl, Ext.refl _, rfl⟩
    · obtain ⟨k0, k1⟩ := hk
      obtain rfl : u10 = undef := k0
      obtain rfl : u2 = .bool true := k1
      go_wp2_with fail
      exact ⟨rfl, Ext.refl _, rfl⟩
    · have k0 := hk
      obtain rfl : u11 = undef := k0
      go_wp2_with fail
      exact ⟨rfl, Ext.refl _, rfl⟩
    · have k0 := hk
      obtain rfl : u11 = undef := k0
      go_wp2_with fail
      exact ⟨rfl, Ext.refl _, rfl⟩
    · obtain ⟨k0, k1, k2⟩ := hk
      obtain rfl : u12 = undef := k0
      obtain rfl : u13 = undef := k1
      obtain rfl : u11 = undef := k2
      go_wp2_with fail
      exact ⟨rfl, Ext.refl _, rfl⟩
    · have k0 := hk
      obtain rfl : u11 = undef := k0
      go_wp2_with fail
      exact ⟨rfl, Ext.refl _, rfl⟩
    · have k0 := hk
      obtain rfl : u11 = undef := k0
      go_wp2_with fail
      exact ⟨rfl, Ext.refl _, rfl⟩
    · obtain ⟨k0, k1, k2⟩ := hk
      obtain rfl : u15 = undef := k0
      obtain rfl : u16 = undef := k1
      obtain rfl : u11 = undef := k2
      go_wp2_with fail
      exact ⟨rfl, Ext.refl _, rfl⟩
    · obtain ⟨k0, k1, k2⟩ := hk
      obtain rfl : u14 = undef := k0
      obtain rfl : u17 = undef := k1
      obtain rfl : u11 = undef := k2
      go_wp2_with fail
      exact ⟨rfl, Ext.refl _, rfl⟩
    · have k0 := hk
      obtain rfl : u11 = undef := k0
      go_wp2_with fail
      exact ⟨rfl, Ext.refl _, rfl⟩
    · have k0 := hk
      obtain rfl : u11 = undef := k0
      go_wp2_with fail
      exact ⟨rfl, Ext.refl _, rfl⟩
    · obtain ⟨k0, k1, k2⟩ := hk
      obtain rfl : u19 = undef := k0
      obtain rfl : u20 = undef := k1
      obtain rfl : u11 = undef := k2
      go_wp2_with fail
      exact ⟨rfl, Ext.refl _, rfl⟩
    · obtain ⟨k0, k1, k2⟩ := hk
      obtain rfl : u18 = undef := k0
      obtain rfl : u21 = undef := k1
      obtain rfl : u11 = undef := k2
      go_wp2_with fail
      exact ⟨rfl, Ext.refl _, rfl⟩
    · obtain ⟨k0, k1, k2⟩ := hk
      obtain rfl : u11 = undef := k0
      obtain rfl : u22 = undef := k1
      obtain rfl : u2 = .bool true := k2
      go_wp2_with fail
      exact ⟨rfl, Ext.refl _, rfl⟩
    · obtain ⟨k0, k1⟩ := hk
      obtain rfl : u23 = undef := k0
      obtain rfl : u2 = .bool true := k1
      go_wp2_with fail
      exact ⟨rfl, Ext.refl _, rfl⟩
    · have k0 := hk
      obtain rfl : u24 = undef := k0
      go_wp2_with fail
      exact ⟨rfl, Ext.refl _, rfl⟩
    · have k0 := hk
      obtain rfl : u24 = undef := k0
      go_wp2_with fail
      exact ⟨rfl, Ext.refl _, rfl⟩
    · obtain ⟨k0, k1, k2⟩ := hk
      obtain rfl : u25 = undef := k0
      obtain rfl : u26 = undef := k1
      obtain rfl : u24 = undef := k2
      go_wp2_with fail
      exact ⟨rfl, Ext.refl _, rfl⟩
    · obtain ⟨k0, k1⟩ := hk
      obtain rfl : u27 = undef := k0
      obtain rfl : u24 = undef := k1
      go_wp2_with fail
      exact ⟨rfl, Ext.refl _, rfl⟩
    · have k0 := hk
      obtain rfl : u24 = undef := k0
      go_wp2_with fail
      exact ⟨rfl, Ext.refl _, rfl⟩
    · obtain ⟨k0, k1⟩ := hk
      obtain rfl : u29 = undef := k0
      obtain rfl : u24 = undef := k1
      go_wp2_with fail
      exact ⟨rfl, Ext.refl _, rfl⟩
    · obtain ⟨k0, k1, k2⟩ := hk
      obtain rfl : u28 = undef := k0
      obtain rfl : u30 = undef := k1
      obtain rfl : u24 = undef := k2
      go_wp2_with fail
      exact ⟨rfl, Ext.refl _, rfl⟩
    · obtain ⟨k0, k1, k2⟩ := hk
      obtain rfl : u24 = undef := k0
      obtain rfl : u31 = undef := k1
      obtain rfl : u2 = .bool true := k2
      go_wp2_with fail
      exact ⟨rfl, Ext.refl _, rfl⟩
    · obtain ⟨k0, k1⟩ := hk
      obtain rfl : u2 = .bool true := k0
      obtain rfl : u32 = undef := k1
      go_wp2_with fail
      exact ⟨rfl, Ext.refl _, by show (_ : Value) = _; (first | rfl | simp); try rfl⟩
  case last =>
    intro w1 he u0 h0 u1 h1 u2 h2 u3 h3 u4 h4 u5 h5 u6 h6 u7 h7 u8 h8 u9 h9 u10 h10 u11 h11 u12 h12 u13 h13 u14 h14 u15 h15 u16 h16 u17 h17 u18 h18 u19 h19 u20 h20 u21 h21 u22 h22 u23 h23 u24 h24 u25 h25 u26 h26 u27 h27 u28 h28 u29 h29 u30 h30 u31 h31 u32 h32 u33 h33
    obtain rfl : u33 = .bool true := h33
    clear h0 h1 h2 h3 h4 h5 h6 h7 h8 h9 h10 h11 h12 h13 h14 h15 h16 h17 h18 h19 h20 h21 h22 h23 h24 h25 h26 h27 h28 h29 h30 h31 h32
    simp only [LastD, Act.put, List.setIfInBounds_toArray, List.set_cons_succ, List.set_cons_zero]
    have HE := Lib.hid (((Ext.alloc _ _).trans (Ext.alloc _ _)).trans he)
    clear he
    go_wp2_with fail
    go_ret
    exact ⟨HE.out, rfl⟩

set_option maxHeartbeats 1000000 in
theorem fnLshOrder_walk_2 (n0 : Bool) (v0 : Value) (ws0 : List Nat) (n1 : Bool) (v1 : Value) (ws1 : List Nat) (n : Nat) (w : World) (hr0 : Rd .u64 w v0 ws0) (hl0 : ws0.length ≤ 17592186043904) (hr1 : Rd .u64 w v1 ws1) (hl1 : ws1.length ≤ 17592186043904) (hn : n ≤ 4096) :
    Calls Try.prog 9 #[.agg #[.bool n0, v0], .agg #[.bool n1, v1], .int .u64 (n : Nat)] w (ValR (.bool true) w) := by
  obtain ⟨a0, c0, rfl⟩ := hr0.form
  have hz0 : IsZ 17592186043904 (ival n0 ws0) (.agg #[.bool n0, .slice a0 ws0.length c0]) w := ⟨n0, _, ws0, rfl, hr0, hl0, rfl⟩
  generalize hg0 : ival n0 ws0 = a at hz0
  have HZ0 := Lib.hid hz0
  have HG0 := Lib.hid hg0
  clear hz0 hg0 hr0
  obtain ⟨a1, c1, rfl⟩ := hr1.form
  have hz1 : IsZ 17592186043904 (ival n1 ws1) (.agg #[.bool n1, .slice a1 ws1.length c1]) w := ⟨n1, _, ws1, rfl, hr1, hl1, rfl⟩
  generalize hg1 : ival n1 ws1 = b at hz1
  have HZ1 := Lib.hid hz1
  have HG1 := Lib.hid hg1
  clear hz1 hg1 hr1
  go_enter Try.func9, Try.ntmps9
  go_wp2_with fail
  refine wp_region_D preExt mixed [Is (.int .u64 (n : Nat)), Is (.bool false), Is (.bool false), IsZ (17592186043904) (a), IsZ (17592186043904) (b), Is (.int .i64 (cmpZ (a) (b))), Is (.bool (decide (a = b))), IsZ (17592186043904) (a), IsZ (17592186043904) (b), Is (.bool (decide (a = b))), Is (.bool true), Is (.bool true), IsZ (17592186043904) (a), Is (.int .u64 (n : Nat)), IsC (17592186043969) ((a) * 2 ^ (n)), IsZ (17592186043904) (b), Is (.int .u64 (n : Nat)), IsC (17592186043969) ((b) * 2 ^ (n)), Is (.int .i64 (cmpZ (a) (b))), IsZ (17592186043904) (a), IsZ (17592186043904) (b), Is (.int .i64 (cmpZ (a) (b))), Is (.bool true), Is (.bool true), Is (.bool true), IsZ (17592186043904) (a), Is (.int .u64 (n : Nat)), IsC (17592186043969) ((a) * 2 ^ (n)), Is (.int .i64 (sgnZ (a))), IsZ (17592186043904) (a), Is (.int .i64 (sgnZ (a))), Is (.bool true), Is (.bool true), Is (.bool true)] (by kernel_rfl) ?mono rfl ?steps ?last
  case mono =>
    simp only [List.forall_mem_cons, List.not_mem_nil, false_implies, implies_true, and_true]
    refine ⟨?_, ?_, ?_, ?_, ?_, ?_, ?_, ?_, ?_, ?_, ?_, ?_, ?_, ?_, ?_, ?_, ?_, ?_, ?_, ?_, ?_, ?_, ?_, ?_, ?_, ?_, ?_, ?_, ?_, ?_, ?_, ?_, ?_, ?_⟩
    all_goals first | exact fun _ _ _ _ q => q | exact fun _ _ _ he q => q.ext he
  case steps =>
    refine ⟨?_, ?_, ?_, ?_, ?_, ?_, ?_, ?_, ?_, ?_, ?_, ?_, ?_, ?_, ?_, ?_, ?_, ?_, ?_, ?_, ?_, ?_, ?_, ?_, ?_, ?_, ?_, ?_, ?_, ?_, ?_, ?_, ?_, ?_, trivial⟩
    all_goals
      intro u0 u1 u2 u3 u4 u5 u6 u7 u8 u9 u10 u11 u12 u13 u14 u15 u16 u17 u18 u19 u20 u21 u22 u23 u24 u25 u26 u27 u28 u29 u30 u31 u32 u33 u34 w1 he hk
      simp [KnownD, Oper.looksAt, Op.operands, Call.operands, List.findIdx?_cons, Act.put] at hk
      simp only [Act.put, List.setIfInBounds_toArray, List.set_cons_succ, List.set_cons_zero]
    · go_wp2_with fail
      exact ⟨rfl, Ext.refl _, by show (_ : Value) = _; (first | rfl | simp); try rfl⟩
    · have k0 := hk
      obtain rfl : u0 = .int .u64 (n : Nat) := k0
      go_wp2_with fail
      exact ⟨rfl, Ext.refl _, by show (_ : Value) = _; (simp; omega); try rfl⟩
    · have k0 := hk
      obtain rfl : u1 = .bool false := k0
      go_wp2_with fail
      exact ⟨rfl, Ext.refl _, by show (_ : Value) = _; (first | rfl | simp); try rfl⟩
    · have k0 := hk
      obtain rfl : u2 = .bool false := k0
      have hb := he.block ((Ext.alloc _ _).block (heap_alloc_new _ _))
      have hc0 := blk_cell hb 0
      have hc1 := blk_cell hb 1
      simp at hc0 hc1
      clear hb
      go_wp2_with fail
      exact ⟨rfl, Ext.refl _, HZ0.out.ext (((Ext.alloc _ _).trans (Ext.alloc _ _)).trans he)⟩
    · have k0 := hk
      obtain rfl : u2 = .bool false := k0
      have hb := he.block (heap_second _ _ _)
      have hc0 := blk_cell hb 0
      have hc1 := blk_cell hb 1
      simp at hc0 hc1
      clear hb
      go_wp2_with fail
      exact ⟨rfl, Ext.refl _, HZ1.out.ext (((Ext.alloc _ _).trans (Ext.alloc _ _)).trans he)⟩
    · obtain ⟨k0, k1, k2⟩ := hk
      obtain rfl : u2 = .bool false := k2
      have H0 := Lib.hid k0
      have H1 := Lib.hid k1
      clear k0 k1
      go_wp2_with fail
      refine (compare_z (17592186043904) (17592186043904) (a) (b) _ _ _ (H0.out) (H1.out) (by omega) (by omega)).mono ?_
      rintro e w2 ⟨he2, x, rfl, hx⟩
      obtain rfl : x = .int .i64 (cmpZ (a) (b)) := hx
      go_wp2_with fail
      exact ⟨rfl, he2, rfl⟩
    · obtain ⟨k0, k1⟩ := hk
      obtain rfl : u5 = .int .i64 (cmpZ (a) (b)) := k0
      obtain rfl : u2 = .bool false := k1
      go_wp2_with fail
      exact ⟨rfl, Ext.refl _, by show (_ : Value) = _; (simp only [cmpZ_zero]); try rfl⟩
    · have k0 := hk
      obtain rfl : u2 = .bool false := k0
      have hb := he.block ((Ext.alloc _ _).block (heap_alloc_new _ _))
      have hc0 := blk_cell hb 0
      have hc1 := blk_cell hb 1
      simp at hc0 hc1
      clear hb
      go_wp2_with fail
      exact ⟨rfl, Ext.refl _, HZ0.out.ext (((Ext.alloc _ _).trans (Ext.alloc _ _)).trans he)⟩
    · have k0 := hk
      obtain rfl : u2 = .bool false := k0
      have hb := he.block (heap_second _ _ _)
      have hc0 := blk_cell hb 0
      have hc1 := blk_cell hb 1
      simp at hc0 hc1
      clear hb
      go_wp2_with fail
      exact ⟨rfl, Ext.refl _, HZ1.out.ext (((Ext.alloc _ _).trans (Ext.alloc _ _)).trans he)⟩
    · obtain ⟨k0, k1, k2⟩ := hk
      obtain rfl : u2 = .bool false := k2
      have H0 := Lib.hid k0
      have H1 := Lib.hid k1
      clear k0 k1
      go_wp2_with fail
      refine (same_z (17592186043904) (17592186043904) (a) (b) _ _ _ (H0.out) (H1.out) (by omega) (by omega)).mono ?_
      rintro e w2 ⟨he2, x, rfl, hx⟩
      obtain rfl : x = .bool (decide (a = b)) := hx
      go_wp2_with fail
      exact ⟨rfl, he2, rfl⟩
    · obtain ⟨k0, k1, k2⟩ := hk
      obtain rfl : u6 = .bool (decide (a = b)) := k0
      obtain rfl : u9 = .bool (decide (a = b)) := k1
      obtain rfl : u2 = .bool false := k2
      go_wp2_with fail
      exact ⟨rfl, Ext.refl _, by show (_ : Value) = _; (simp); try rfl⟩
    · obtain ⟨k0, k1⟩ := hk
      obtain rfl : u10 = .bool true := k0
      obtain rfl : u2 = .bool false := k1
      go_wp2_with fail
      exact ⟨rfl, Ext.refl _, by show (_ : Value) = _; (first | rfl | simp); try rfl⟩
    · have k0 := hk
      obtain rfl : u11 = .bool true := k0
      have hb := he.block ((Ext.alloc _ _).block (heap_alloc_new _ _))
      have hc0 := blk_cell hb 0
      have hc1 := blk_cell hb 1
      simp at hc0 hc1
      clear hb
      go_wp2_with fail
      exact ⟨rfl, Ext.refl _, HZ0.out.ext (((Ext.alloc _ _).trans (Ext.alloc _ _)).trans he)⟩
    · have k0 := hk
      obtain rfl : u11 = .bool true := k0
      go_wp2_with fail
      exact ⟨rfl, Ext.refl _, by show (_ : Value) = _; (first | rfl | simp); try rfl⟩
    · obtain ⟨k0, k1, k2⟩ := hk
      obtain rfl : u13 = .int .u64 (n : Nat) := k1
      obtain rfl : u11 = .bool true := k2
      have H0 := Lib.hid k0
      clear k0
      go_wp2_with fail
      refine (lsh_n (17592186043904) (a) (n) _ _ (H0.out) (by omega) (by omega)).mono ?_
      rintro e w2 ⟨he2, x, rfl, hx⟩
      have HX := Lib.hid hx
      clear hx
      go_wp2_with fail
      exact ⟨rfl, he2, HX.out⟩
    · have k0 := hk
      obtain rfl : u11 = .bool true := k0
      have hb := he.block (heap_second _ _ _)
      have hc0 := blk_cell hb 0
      have hc1 := blk_cell hb 1
      simp at hc0 hc1
      clear hb
      go_wp2_with fail
      exact ⟨rfl, Ext.refl _, HZ1.out.ext (((Ext.alloc _ _).trans (Ext.alloc _ _)).trans he)⟩
    · have k0 := hk
      obtain rfl : u11 = .bool true := k0
      go_wp2_with fail
      exact ⟨rfl, Ext.refl _, by show (_ : Value) = _; (first | rfl | simp); try rfl⟩
    · obtain ⟨k0, k1, k2⟩ := hk
      obtain rfl : u16 = .int .u64 (n : Nat) := k1
      obtain rfl : u11 = .bool true := k2
      have H0 := Lib.hid k0
      clear k0
      go_wp2_with fail
      refine (lsh_n (17592186043904) (b) (n) _ _ (H0.out) (by omega) (by omega)).mono ?_
      rintro e w2 ⟨he2, x, rfl, hx⟩
      have HX := Lib.hid hx
      clear hx
      go_wp2_with fail
      exact ⟨rfl, he2, HX.out⟩
    · obtain ⟨k0, k1, k2⟩ := hk
      obtain rfl : u11 = .bool true := k2
      have H0 : Hid (IsC (17592186043969) ((a) * 2 ^ (n)) u14 w1) := Lib.hid (by first | exact k0 | simpa using k0)
      have H1 : Hid (IsC (17592186043969) ((b) * 2 ^ (n)) u17 w1) := Lib.hid (by first | exact k1 | simpa using k1)
      clear k0 k1
      go_wp2_with fail
      refine (compare_z (17592186043969) (17592186043969) ((a) * 2 ^ (n)) ((b) * 2 ^ (n)) _ _ _ (H0.out.z) (H1.out.z) (by omega) (by omega)).mono ?_
      rintro e w2 ⟨he2, x, rfl, hx⟩
      obtain rfl : x = .int .i64 (cmpZ (a) (b)) := hx.trans (by rw [cmpZ_shl])
      go_wp2_with fail
      exact ⟨rfl, he2, rfl⟩
    · have k0 := hk
      obtain rfl : u11 = .bool true := k0
      have hb := he.block ((Ext.alloc _ _).block (heap_alloc_new _ _))
      have hc0 := blk_cell hb 0
      have hc1 := blk_cell hb 1
      simp at hc0 hc1
      clear hb
      go_wp2_with fail
      exact ⟨rfl, Ext.refl _, HZ0.out.ext (((Ext.alloc _ _).trans (Ext.alloc _ _)).trans he)⟩
    · have k0 := hk
      obtain rfl : u11 = .bool true := k0
      have hb := he.block (heap_second _ _ _)
      have hc0 := blk_cell hb 0
      have hc1 := blk_cell hb 1
      simp at hc0 hc1
      clear hb
      go_wp2_with fail
      exact ⟨rfl, Ext.refl _, HZ1.out.ext (((Ext.alloc _ _).trans (Ext.alloc _ _)).trans he)⟩
    · obtain ⟨k0, k1, k2⟩ := hk
      obtain rfl : u11 = .bool true := k2
      have H0 := Lib.hid k0
      have H1 := Lib.hid k1
      clear k0 k1
      go_wp2_with fail
      refine (compare_z (17592186043904) (17592186043904) (a) (b) _ _ _ (H0.out) (H1.out) (by omega) (by omega)).mono ?_
      rintro e w2 ⟨he2, x, rfl, hx⟩
      obtain rfl : x = .int .i64 (cmpZ (a) (b)) := hx
      go_wp2_with fail
      exact ⟨rfl, he2, rfl⟩
    · obtain ⟨k0, k1, k2⟩ := hk
      obtain rfl : u18 = .int .i64 (cmpZ (a) (b)) := k0
      obtain rfl : u21 = .int .i64 (cmpZ (a) (b)) := k1
      obtain rfl : u11 = .bool true := k2
      go_wp2_with fail
      exact ⟨rfl, Ext.refl _, by show (_ : Value) = _; (simp); try rfl⟩
    · obtain ⟨k0, k1, k2⟩ := hk
      obtain rfl : u11 = .bool true := k0
      obtain rfl : u22 = .bool true := k1
      obtain rfl : u2 = .bool false := k2
      go_wp2_with fail
      exact ⟨rfl, Ext.refl _, by show (_ : Value) = _; (first | rfl | simp); try rfl⟩
    · obtain ⟨k0, k1⟩ := hk
      obtain rfl : u23 = .bool true := k0
      obtain rfl : u2 = .bool false := k1
      go_wp2_with fail
      exact ⟨rfl, Ext.refl _, by show (_ : Value) = _; (first | rfl | simp); try rfl⟩
    · have k0 := hk
      obtain rfl : u24 = .bool true := k0
      have hb := he.block ((Ext.alloc _ _).block (heap_alloc_new _ _))
      have hc0 := blk_cell hb 0
      have hc1 := blk_cell hb 1
      simp at hc0 hc1
      clear hb
      go_wp2_with fail
      exact ⟨rfl, Ext.refl _, HZ0.out.ext (((Ext.alloc _ _).trans (Ext.alloc _ _)).trans he)⟩
    · have k0 := hk
      obtain rfl : u24 = .bool true := k0
      go_wp2_with fail
      exact ⟨rfl, Ext.refl _, by show (_ : Value) = _; (first | rfl | simp); try rfl⟩
    · obtain ⟨k0, k1, k2⟩ := hk
      obtain rfl : u26 = .int .u64 (n : Nat) := k1
      obtain rfl : u24 = .bool true := k2
      have H0 := Lib.hid k0
      clear k0
      go_wp2_with fail
      refine (lsh_n (17592186043904) (a) (n) _ _ (H0.out) (by omega) (by omega)).mono ?_
      rintro e w2 ⟨he2, x, rfl, hx⟩
      have HX := Lib.hid hx
      clear hx
      go_wp2_with fail
      exact ⟨rfl, he2, HX.out⟩
    · obtain ⟨k0, k1⟩ := hk
      obtain rfl : u24 = .bool true := k1
      have H0 : Hid (IsC (17592186043969) ((a) * 2 ^ (n)) u27 w1) := Lib.hid (by first | exact k0 | simpa using k0)
      clear k0
      go_wp2_with fail
      refine (sign_z (17592186043969) ((a) * 2 ^ (n)) _ _ (H0.out.z) (by omega)).mono ?_
      rintro e w2 ⟨he2, x, rfl, hx⟩
      obtain rfl : x = .int .i64 (sgnZ (a)) := hx.trans (by rw [sgnZ_shl])
      go_wp2_with fail
      exact ⟨rfl, he2, rfl⟩
    · have k0 := hk
      obtain rfl : u24 = .bool true := k0
      have hb := he.block ((Ext.alloc _ _).block (heap_alloc_new _ _))
      have hc0 := blk_cell hb 0
      have hc1 := blk_cell hb 1
      simp at hc0 hc1
      clear hb
      go_wp2_with fail
      exact ⟨rfl, Ext.refl _, HZ0.out.ext (((Ext.alloc _ _).trans (Ext.alloc _ _)).trans he)⟩
    · obtain ⟨k0, k1⟩ := hk
      obtain rfl : u24 = .bool true := k1
      have H0 := Lib.hid k0
      clear k0
      go_wp2_with fail
      refine (sign_z (17592186043904) (a) _ _ (H0.out) (by omega)).mono ?_
      rintro e w2 ⟨he2, x, rfl, hx⟩
      obtain rfl : x = .int .i64 (sgnZ (a)) := hx
      go_wp2_with fail
      exact ⟨rfl, he2, rfl⟩
    · obtain ⟨k0, k1, k2⟩ := hk
      obtain rfl : u28 = .int .i64 (sgnZ (a)) := k0
      obtain rfl : u30 = .int .i64 (sgnZ (a)) := k1
      obtain rfl : u24 = .bool true := k2
      go_wp2_with fail
      exact ⟨rfl, Ext.refl _, by show (_ : Value) = _; (simp); try rfl⟩
    · obtain ⟨k0, k1, k2⟩ := hk
      obtain rfl : u24 = .bool true := k0
      obtain rfl : u31 = .bool true := k1
      obtain rfl : u2 = .bool false := k2
      go_wp2_with fail
      exact ⟨rfl, Ext.refl _, by show (_ : Value) = _; (first | rfl | simp); try rfl⟩
    · obtain ⟨k0, k1⟩ := hk
      obtain rfl : u2 = .bool false := k0
      obtain rfl : u32 = .bool true := k1
      go_wp2_with fail
      exact ⟨rfl, Ext.refl _, by show (_ : Value) = _; (first | rfl | simp); try rfl⟩
  case last =>
    intro w1 he u0 h0 u1 h1 u2 h2 u3 h3 u4 h4 u5 h5 u6 h6 u7 h7 u8 h8 u9 h9 u10 h10 u11 h11 u12 h12 u13 h13 u14 h14 u15 h15 u16 h16 u17 h17 u18 h18 u19 h19 u20 h20 u21 h21 u22 h22 u23 h23 u24 h24 u25 h25 u26 h26 u27 h27 u28 h28 u29 h29 u30 h30 u31 h31 u32 h32 u33 h33
    obtain rfl : u33 = .bool true := h33
    clear h0 h1 h2 h3 h4 h5 h6 h7 h8 h9 h10 h11 h12 h13 h14 h15 h16 h17 h18 h19 h20 h21 h22 h23 h24 h25 h26 h27 h28 h29 h30 h31 h32
    simp only [LastD, Act.put, List.setIfInBounds_toArray, List.set_cons_succ, List.set_cons_zero]
    have HE := Lib.hid (((Ext.alloc _ _).trans (Ext.alloc _ _)).trans he)
    clear he
    go_wp2_with fail
    go_ret
    exact ⟨HE.out, rfl⟩

theorem fnLshOrder_walk (n0 : Bool) (v0 : Value) (ws0 : List Nat) (n1 : Bool) (v1 : Value) (ws1 : List Nat) (n : Int) (w : World) (hr0 : Rd .u64 w v0 ws0) (hl0 : ws0.length ≤ 17592186043904) (hr1 : Rd .u64 w v1 ws1) (hl1 : ws1.length ≤ 17592186043904) (hn : (Lit.int .u64 n).wf = true) :
    Calls Try.prog 9 #[.agg #[.bool n0, v0], .agg #[.bool n1, v1], .int .u64 n] w (ValR (.bool true) w) := by
  obtain ⟨n, rfl, hn⟩ := u64_nat hn
  by_cases h1 : n ≤ 4096
  · exact fnLshOrder_walk_2 n0 v0 ws0 n1 v1 ws1 n w hr0 hl0 hr1 hl1 h1
  · exact fnLshOrder_walk_1 n0 v0 ws0 n1 v1 ws1 n w hr0 hl0 hr1 hl1 (by omega)

set_option maxHeartbeats 1000000 in
theorem fnBitLenShift_walk_1 (n0 : Bool) (v0 : Value) (ws0 : List Nat) (n : Nat) (w : World) (hr0 : Rd .u64 w v0 ws0) (hl0 : ws0.length ≤ 17592186043904) (hn : 4096 < n) :
    Calls Try.prog 10 #[.agg #[.bool n0, v0], .int .u64 (n : Nat)] w (ValR (.bool true) w) := by
  obtain ⟨a0, c0, rfl⟩ := hr0.form
  have hz0 : IsZ 17592186043904 (ival n0 ws0) (.agg #[.bool n0, .slice a0 ws0.length c0]) w := ⟨n0, _, ws0, rfl, hr0, hl0, rfl⟩
  generalize hg0 : ival n0 ws0 = a at hz0
  have HZ0 := Lib.hid hz0
  have HG0 := Lib.hid hg0
  clear hz0 hg0 hr0
  go_enter Try.func10, Try.ntmps10
  go_wp2_with fail
  refine wp_region_D preExt mixed [Is (.int .u64 (n : Nat)), Is (.bool true), Is (.bool true), Is undef, Is undef, Is undef, Is undef, Is undef, Is undef, Is undef, Is undef, Is undef, Is undef, Is undef, Is undef, Is undef, Is undef, Is undef, Is undef, Is undef, Is undef, Is undef, Is undef, Is undef, Is undef, Is (.bool true)] (by kernel_rfl) ?mono rfl ?steps ?last
  case mono =>
    simp only [List.forall_mem_cons, List.not_mem_nil, false_implies, implies_true, and_true]
    refine ⟨?_, ?_, ?_, ?_, ?_, ?_, ?_, ?_, ?_, ?_, ?_, ?_, ?_, ?_, ?_, ?_, ?_, ?_, ?_, ?_, ?_, ?_, ?_, ?_, ?_, ?_⟩
    all_goals first | exact fun _ _ _ _ q => q | exact fun _ _ _ he q => q.ext he
  case steps =>
    refine ⟨?_, ?_, ?_, ?_, ?_, ?_, ?_, ?_, ?_, ?_, ?_, ?_, ?_, ?_, ?_, ?_, ?_, ?_, ?_, ?_, ?_, ?_, ?_, ?_, ?_, ?_, trivial⟩
    all_goals
      intro u0 u1 u2 u3 u4 u5 u6 u7 u8 u9 u10 u11 u12 u13 u14 u15 u16 u17 u18 u19 u20 u21 u22 u23 u24 u25 u26 w1 he hk
      simp [KnownD, Oper.looksAt, Op.operands, Call.operands, List.findIdx?_cons, Act.put] at hk
      simp only [Act.put, List.setIfInBounds_toArray, List.set_cons_succ, List.set_cons_zero]
    · go_wp2_with fail
      exact ⟨rfl, Ext.refl _, by show (_ : Value) = _; (first | rfl | simp); try rfl⟩
    · have k0 := hk
      obtain rfl : u0 = .int .u64 (n : Nat) := k0
      go_wp2_with fail
      exact ⟨rfl, Ext.refl _, by show (_ : Value) = _; (simp; omega); try rfl⟩
    · have k0 := hk
      obtain rfl : u1 = .bool true := k0
      go_wp2_with fail
      exact ⟨rfl, Ext.refl _, by show (_ : Value) = _; (first | rfl | simp); try rfl⟩
    · have k0 := hk
      obtain rfl : u2 = .bool true := k0
      go_wp2_with fail
      exact ⟨rfl, Ext.refl _, rfl⟩
    · obtain ⟨k0, k1⟩ := hk
      obtain rfl : u3 = undef := k0
      obtain rfl : u2 = .bool true := k1
      go_wp2_with fail
      exact ⟨rfl, Ext.refl _, rfl⟩
    · obtain ⟨k0, k1⟩ := hk
      obtain rfl : u4 = undef := k0
      obtain rfl : u2 = .bool true := k1
      go_wp2_with fail
      exact ⟨rfl, Ext.refl _, rfl⟩
    · have k0 := hk
      obtain rfl : u2 = .bool true := k0
      go_wp2_with fail
      exact ⟨rfl, Ext.refl _, rfl⟩
    · obtain ⟨k0, k1⟩ := hk
      obtain rfl : u6 = undef := k0
      obtain rfl : u2 = .bool true := k1
      go_wp2_with fail
      exact ⟨rfl, Ext.refl _, rfl⟩
    · obtain ⟨k0, k1, k2⟩ := hk
      obtain rfl : u5 = undef := k0
      obtain rfl : u7 = undef := k1
      obtain rfl : u2 = .bool true := k2
      go_wp2_with fail
      exact ⟨rfl, Ext.refl _, rfl⟩
    · obtain ⟨k0, k1⟩ := hk
      obtain rfl : u8 = undef := k0
      obtain rfl : u2 = .bool true := k1
      go_wp2_with fail
      exact ⟨rfl, Ext.refl _, rfl⟩
    · have k0 := hk
      obtain rfl : u9 = undef := k0
      go_wp2_with fail
      exact ⟨rfl, Ext.refl _, rfl⟩
    · obtain ⟨k0, k1⟩ := hk
      obtain rfl : u10 = undef := k0
      obtain rfl : u9 = undef := k1
      go_wp2_with fail
      exact ⟨rfl, Ext.refl _, rfl⟩
    · obtain ⟨k0, k1⟩ := hk
      obtain rfl : u11 = undef := k0
      obtain rfl : u9 = undef := k1
      go_wp2_with fail
      exact ⟨rfl, Ext.refl _, rfl⟩
    · have k0 := hk
      obtain rfl : u12 = undef := k0
      go_wp2_with fail
      exact ⟨rfl, Ext.refl _, rfl⟩
    · have k0 := hk
      obtain rfl : u12 = undef := k0
      go_wp2_with fail
      exact ⟨rfl, Ext.refl _, rfl⟩
    · obtain ⟨k0, k1, k2⟩ := hk
      obtain rfl : u13 = undef := k0
      obtain rfl : u14 = undef := k1
      obtain rfl : u12 = undef := k2
      go_wp2_with fail
      exact ⟨rfl, Ext.refl _, rfl⟩
    · obtain ⟨k0, k1⟩ := hk
      obtain rfl : u15 = undef := k0
      obtain rfl : u12 = undef := k1
      go_wp2_with fail
      exact ⟨rfl, Ext.refl _, rfl⟩
    · have k0 := hk
      obtain rfl : u12 = undef := k0
      go_wp2_with fail
      exact ⟨rfl, Ext.refl _, rfl⟩
    · obtain ⟨k0, k1⟩ := hk
      obtain rfl : u17 = undef := k0
      obtain rfl : u12 = undef := k1
      go_wp2_with fail
      exact ⟨rfl, Ext.refl _, rfl⟩
    · have k0 := hk
      obtain rfl : u12 = undef := k0
      go_wp2_with fail
      exact ⟨rfl, Ext.refl _, rfl⟩
    · obtain ⟨k0, k1⟩ := hk
      obtain rfl : u19 = undef := k0
      obtain rfl : u12 = undef := k1
      go_wp2_with fail
      exact ⟨rfl, Ext.refl _, rfl⟩
    · obtain ⟨k0, k1, k2⟩ := hk
      obtain rfl : u18 = undef := k0
      obtain rfl : u20 = undef := k1
      obtain rfl : u12 = undef := k2
      go_wp2_with fail
      exact ⟨rfl, Ext.refl _, rfl⟩
    · obtain ⟨k0, k1, k2⟩ := hk
      obtain rfl : u16 = undef := k0
      obtain rfl : u21 = undef := k1
      obtain rfl : u12 = undef := k2
      go_wp2_with fail
      exact ⟨rfl, Ext.refl _, rfl⟩
    · obtain ⟨k0, k1, k2⟩ := hk
      obtain rfl : u12 = undef := k0
      obtain rfl : u22 = undef := k1
      obtain rfl : u9 = undef := k2
      go_wp2_with fail
      exact ⟨rfl, Ext.refl _, rfl⟩
    · obtain ⟨k0, k1, k2⟩ := hk
      obtain rfl : u9 = undef := k0
      obtain rfl : u23 = undef := k1
      obtain rfl : u2 = .bool true := k2
      go_wp2_with fail
      exact ⟨rfl, Ext.refl _, rfl⟩
    · obtain ⟨k0, k1⟩ := hk
      obtain rfl : u2 = .bool true := k0
      obtain rfl : u24 = undef := k1
      go_wp2_with fail
      exact ⟨rfl, Ext.refl _, by show (_ : Value) = _; (first | rfl | simp); try rfl⟩
  case last =>
    intro w1 he u0 h0 u1 h1 u2 h2 u3 h3 u4 h4 u5 h5 u6 h6 u7 h7 u8 h8 u9 h9 u10 h10 u11 h11 u12 h12 u13 h13 u14 h14 u15 h15 u16 h16 u17 h17 u18 h18 u19 h19 u20 h20 u21 h21 u22 h22 u23 h23 u24 h24 u25 h25
    obtain rfl : u25 = .bool true := h25
    clear h0 h1 h2 h3 h4 h5 h6 h7 h8 h9 h10 h11 h12 h13 h14 h15 h16 h17 h18 h19 h20 h21 h22 h23 h24
    simp only [LastD, Act.put, List.setIfInBounds_toArray, List.set_cons_succ, List.set_cons_zero]
    have HE := Lib.hid ((Ext.alloc _ _).trans he)
    clear he
    go_wp2_with fail
    go_ret
    exact ⟨HE.out, rfl⟩

set_option maxHeartbeats 1000000 in
theorem fnBitLenShift_walk_2 (n0 : Bool) (v0 : Value) (ws0 : List Nat) (n : Nat) (w : World) (hr0 : Rd .u64 w v0 ws0) (hl0 : ws0.length ≤ 17592186043904) (hn : n ≤ 4096) (hc : ival n0 ws0 = 0) :
    Calls Try.prog 10 #[.agg #[.bool n0, v0], .int .u64 (n : Nat)] w (ValR (.bool true) w) := by
  obtain ⟨a0, c0, rfl⟩ := hr0.form
  have hz0 : IsZ 17592186043904 (ival n0 ws0) (.agg #[.bool n0, .slice a0 ws0.length c0]) w := ⟨n0, _, ws0, rfl, hr0, hl0, rfl⟩
  generalize hg0 : ival n0 ws0 = a at hz0
  have HZ0 := Lib.hid hz0
  have HG0 := Lib.hid hg0
  clear hz0 hg0 hr0
  have HC : Hid (a = 0) := by rw [HG0.out] at hc; exact hc
  clear hc
  go_enter Try.func10, Try.ntmps10
  go_wp2_with fail
  refine wp_region_D preExt mixed [Is (.int .u64 (n : Nat)), Is (.bool false), Is (.bool false), IsZ (17592186043904) (a), IsC (17592186043904) (-(a)), Is (.int .i64 (blen (a) : Nat)), IsZ (17592186043904) (a), Is (.int .i64 (blen (a) : Nat)), Is (.bool true), Is (.bool true), IsZ (17592186043904) (a), Is (.bool true), Is (.bool true), Is undef, Is undef, Is undef, Is undef, Is undef, Is undef, Is undef, Is undef, Is undef, Is undef, Is (.bool true), Is (.bool true), Is (.bool true)] (by kernel_rfl) ?mono rfl ?steps ?last
  case mono =>
    simp only [List.forall_mem_cons, List.not_mem_nil, false_implies, implies_true, and_true]
    refine ⟨?_, ?_, ?_, ?_, ?_, ?_, ?_, ?_, ?_, ?_, ?_, ?_, ?_, ?_, ?_, ?_, ?_, ?_, ?_, ?_, ?_, ?_, ?_, ?_, ?_, ?_⟩
    all_goals first | exact fun _ _ _ _ q => q | exact fun _ _ _ he q => q.ext he
  case steps =>
    refine ⟨?_, ?_, ?_, ?_, ?_, ?_, ?_, ?_, ?_, ?_, ?_, ?_, ?_, ?_, ?_, ?_, ?_, ?_, ?_, ?_, ?_, ?_, ?_, ?_, ?_, ?_, trivial⟩
    all_goals
      intro u0 u1 u2 u3 u4 u5 u6 u7 u8 u9 u10 u11 u12 u13 u14 u15 u16 u17 u18 u19 u20 u21 u22 u23 u24 u25 u26 w1 he hk
      simp [KnownD, Oper.looksAt, Op.operands, Call.operands, List.findIdx?_cons, Act.put] at hk
      simp only [Act.put, List.setIfInBounds_toArray, List.set_cons_succ, List.set_cons_zero]
    · go_wp2_with fail
      exact ⟨rfl, Ext.refl _, by show (_ : Value) = _; (first | rfl | simp); try rfl⟩
    · have k0 := hk
      obtain rfl : u0 = .int .u64 (n : Nat) := k0
      go_wp2_with fail
      exact ⟨rfl, Ext.refl _, by show (_ : Value) = _; (simp; omega); try rfl⟩
    · have k0 := hk
      obtain rfl : u1 = .bool false := k0
      go_wp2_with fail
      exact ⟨rfl, Ext.refl _, by show (_ : Value) = _; (first | rfl | simp); try rfl⟩
    · have k0 := hk
      obtain rfl : u2 = .bool false := k0
      have hb := he.block (heap_alloc_new _ _)
      have hc0 := blk_cell hb 0
      have hc1 := blk_cell hb 1
      simp at hc0 hc1
      clear hb
      go_wp2_with fail
      exact ⟨rfl, Ext.refl _, HZ0.out.ext ((Ext.alloc _ _).trans he)⟩
    · obtain ⟨k0, k1⟩ := hk
      obtain rfl : u2 = .bool false := k1
      have H0 := Lib.hid k0
      clear k0
      go_wp2_with fail
      refine (neg_z (17592186043904) (a) _ _ (H0.out) (by omega)).mono ?_
      rintro e w2 ⟨he2, x, rfl, hx⟩
      have HX := Lib.hid hx
      clear hx
      go_wp2_with fail
      exact ⟨rfl, he2, HX.out⟩
    · obtain ⟨k0, k1⟩ := hk
      obtain rfl : u2 = .bool false := k1
      have H0 : Hid (IsC (17592186043904) (-(a)) u4 w1) := Lib.hid (by first | exact k0 | simpa using k0)
      clear k0
      go_wp2_with fail
      refine (bitLen_z (17592186043904) (-(a)) _ _ (H0.out.z) (by omega)).mono ?_
      rintro e w2 ⟨he2, x, rfl, hx⟩
      obtain rfl : x = .int .i64 (blen (a) : Nat) := hx.trans (by rw [blen_neg])
      go_wp2_with fail
      exact ⟨rfl, he2, rfl⟩
    · have k0 := hk
      obtain rfl : u2 = .bool false := k0
      have hb := he.block (heap_alloc_new _ _)
      have hc0 := blk_cell hb 0
      have hc1 := blk_cell hb 1
      simp at hc0 hc1
      clear hb
      go_wp2_with fail
      exact ⟨rfl, Ext.refl _, HZ0.out.ext ((Ext.alloc _ _).trans he)⟩
    · obtain ⟨k0, k1⟩ := hk
      obtain rfl : u2 = .bool false := k1
      have H0 := Lib.hid k0
      clear k0
      go_wp2_with fail
      refine (bitLen_z (17592186043904) (a) _ _ (H0.out) (by omega)).mono ?_
      rintro e w2 ⟨he2, x, rfl, hx⟩
      obtain rfl : x = .int .i64 (blen (a) : Nat) := hx
      go_wp2_with fail
      exact ⟨rfl, he2, rfl⟩
    · obtain ⟨k0, k1, k2⟩ := hk
      obtain rfl : u5 = .int .i64 (blen (a) : Nat) := k0
      obtain rfl : u7 = .int .i64 (blen (a) : Nat) := k1
      obtain rfl : u2 = .bool false := k2
      go_wp2_with fail
      exact ⟨rfl, Ext.refl _, by show (_ : Value) = _; (simp); try rfl⟩
    · obtain ⟨k0, k1⟩ := hk
      obtain rfl : u8 = .bool true := k0
      obtain rfl : u2 = .bool false := k1
      go_wp2_with fail
      exact ⟨rfl, Ext.refl _, by show (_ : Value) = _; (first | rfl | simp); try rfl⟩
    · have k0 := hk
      obtain rfl : u9 = .bool true := k0
      have hb := he.block (heap_alloc_new _ _)
      have hc0 := blk_cell hb 0
      have hc1 := blk_cell hb 1
      simp at hc0 hc1
      clear hb
      go_wp2_with fail
      exact ⟨rfl, Ext.refl _, HZ0.out.ext ((Ext.alloc _ _).trans he)⟩
    · obtain ⟨k0, k1⟩ := hk
      obtain rfl : u9 = .bool true := k1
      have H0 := Lib.hid k0
      clear k0
      go_wp2_with fail
      refine (zero_z (17592186043904) (a) _ _ (H0.out) (by omega)).mono ?_
      rintro e w2 ⟨he2, x, rfl, hx⟩
      obtain rfl : x = .bool true := hx.trans (by have := HC.out; simp; omega)
      go_wp2_with fail
      exact ⟨rfl, he2, rfl⟩
    · obtain ⟨k0, k1⟩ := hk
      obtain rfl : u11 = .bool true := k0
      obtain rfl : u9 = .bool true := k1
      go_wp2_with fail
      exact ⟨rfl, Ext.refl _, by show (_ : Value) = _; (first | rfl | simp); try rfl⟩
    · have k0 := hk
      obtain rfl : u12 = .bool true := k0
      go_wp2_with fail
      exact ⟨rfl, Ext.refl _, rfl⟩
    · have k0 := hk
      obtain rfl : u12 = .bool true := k0
      go_wp2_with fail
      exact ⟨rfl, Ext.refl _, rfl⟩
    · obtain ⟨k0, k1, k2⟩ := hk
      obtain rfl : u13 = undef := k0
      obtain rfl : u14 = undef := k1
      obtain rfl : u12 = .bool true := k2
      go_wp2_with fail
      exact ⟨rfl, Ext.refl _, rfl⟩
    · obtain ⟨k0, k1⟩ := hk
      obtain rfl : u15 = undef := k0
      obtain rfl : u12 = .bool true := k1
      go_wp2_with fail
      exact ⟨rfl, Ext.refl _, rfl⟩
    · have k0 := hk
      obtain rfl : u12 = .bool true := k0
      go_wp2_with fail
      exact ⟨rfl, Ext.refl _, rfl⟩
    · obtain ⟨k0, k1⟩ := hk
      obtain rfl : u17 = undef := k0
      obtain rfl : u12 = .bool true := k1
      go_wp2_with fail
      exact ⟨rfl, Ext.refl _, rfl⟩
    · have k0 := hk
      obtain rfl : u12 = .bool true := k0
      go_wp2_with fail
      exact ⟨rfl, Ext.refl _, rfl⟩
    · obtain ⟨k0, k1⟩ := hk
      obtain rfl : u19 = undef := k0
      obtain rfl : u12 = .bool true := k1
      go_wp2_with fail
      exact ⟨rfl, Ext.refl _, rfl⟩
    · obtain ⟨k0, k1, k2⟩ := hk
      obtain rfl : u18 = undef := k0
      obtain rfl : u20 = undef := k1
      obtain rfl : u12 = .bool true := k2
      go_wp2_with fail
      exact ⟨rfl, Ext.refl _, rfl⟩
    · obtain ⟨k0, k1, k2⟩ := hk
      obtain rfl : u16 = undef := k0
      obtain rfl : u21 = undef := k1
      obtain rfl : u12 = .bool true := k2
      go_wp2_with fail
      exact ⟨rfl, Ext.refl _, rfl⟩
    · obtain ⟨k0, k1, k2⟩ := hk
      obtain rfl : u12 = .bool true := k0
      obtain rfl : u22 = undef := k1
      obtain rfl : u9 = .bool true := k2
      go_wp2_with fail
      exact ⟨rfl, Ext.refl _, by show (_ : Value) = _; (first | rfl | simp); try rfl⟩
    · obtain ⟨k0, k1, k2⟩ := hk
      obtain rfl : u9 = .bool true := k0
      obtain rfl : u23 = .bool true := k1
      obtain rfl : u2 = .bool false := k2
      go_wp2_with fail
      exact ⟨rfl, Ext.refl _, by show (_ : Value) = _; (first | rfl | simp); try rfl⟩
    · obtain ⟨k0, k1⟩ := hk
      obtain rfl : u2 = .bool false := k0
      obtain rfl : u24 = .bool true := k1
      go_wp2_with fail
      exact ⟨rfl, Ext.refl _, by show (_ : Value) = _; (first | rfl | simp); try rfl⟩
  case last =>
    intro w1 he u0 h0 u1 h1 u2 h2 u3 h3 u4 h4 u5 h5 u6 h6 u7 h7 u8 h8 u9 h9 u10 h10 u11 h11 u12 h12 u13 h13 u14 h14 u15 h15 u16 h16 u17 h17 u18 h18 u19 h19 u20 h20 u21 h21 u22 h22 u23 h23 u24 h24 u25 h25
    obtain rfl : u25 = .bool true := h25
    clear h0 h1 h2 h3 h4 h5 h6 h7 h8 h9 h10 h11 h12 h13 h14 h15 h16 h17 h18 h19 h20 h21 h22 h23 h24
    simp only [LastD, Act.put, List.setIfInBounds_toArray, List.set_cons_succ, List.set_cons_zero]
    have HE := Lib.hid ((Ext.alloc _ _).trans he)
    clear he
    go_wp2_with fail
    go_ret
    exact ⟨HE.out, rfl⟩

set_option maxHeartbeats 1000000 in
theorem fnBitLenShift_walk_3 (n0 : Bool) (v0 : Value) (ws0 : List Nat) (n : Nat) (w : World) (hr0 : Rd .u64 w v0 ws0) (hl0 : ws0.length ≤ 17592186043904) (hn : n ≤ 4096) (hc : ival n0 ws0 ≠ 0) :
    Calls Try.prog 10 #[.agg #[.bool n0, v0], .int .u64 (n : Nat)] w (ValR (.bool true) w) := by
  obtain ⟨a0, c0, rfl⟩ := hr0.form
  have hz0 : IsZ 17592186043904 (ival n0 ws0) (.agg #[.bool n0, .slice a0 ws0.length c0]) w := ⟨n0, _, ws0, rfl, hr0, hl0, rfl⟩
  generalize hg0 : ival n0 ws0 = a at hz0
  have HZ0 := Lib.hid hz0
  have HG0 := Lib.hid hg0
  clear hz0 hg0 hr0
  have HC : Hid (a ≠ 0) := by rw [HG0.out] at hc; exact hc
  clear hc
  have hbl := HZ0.out.blen_le
  go_enter Try.func10, Try.ntmps10
  go_wp2_with fail
  refine wp_region_D preExt mixed [Is (.int .u64 (n : Nat)), Is (.bool false), Is (.bool false), IsZ (17592186043904) (a), IsC (17592186043904) (-(a)), Is (.int .i64 (blen (a) : Nat)), IsZ (17592186043904) (a), Is (.int .i64 (blen (a) : Nat)), Is (.bool true), Is (.bool true), IsZ (17592186043904) (a), Is (.bool false), Is (.bool false), IsZ (17592186043904) (a), Is (.int .u64 (n : Nat)), IsC (17592186043969) ((a) * 2 ^ (n)), Is (.int .i64 (blen (a) + n : Nat)), IsZ (17592186043904) (a), Is (.int .i64 (blen (a) : Nat)), Is (.int .u64 (n : Nat)), Is (.int .i64 (n : Nat)), Is (.int .i64 (blen (a) + n : Nat)), Is (.bool true), Is (.bool true), Is (.bool true), Is (.bool true)] (by kernel_rfl) ?mono rfl ?steps ?last
  case mono =>
    simp only [List.forall_mem_cons, List.not_mem_nil, false_implies, implies_true, and_true]
    refine ⟨?_, ?_, ?_, ?_, ?_, ?_, ?_, ?_, ?_, ?_, ?_, ?_, ?_, ?_, ?_, ?_, ?_, ?_, ?_, ?_, ?_, ?_, ?_, ?_, ?_, ?_⟩
    all_goals first | exact fun _ _ _ _ q => q | exact fun _ _ _ he q => q.ext he
  case steps =>
    refine ⟨?_, ?_, ?_, ?_, ?_, ?_, ?_, ?_, ?_, ?_, ?_, ?_, ?_, ?_, ?_, ?_, ?_, ?_, ?_, ?_, ?_, ?_, ?_, ?_, ?_, ?_, trivial⟩
    all_goals
      intro u0 u1 u2 u3 u4 u5 u6 u7 u8 u9 u10 u11 u12 u13 u14 u15 u16 u17 u18 u19 u20 u21 u22 u23 u24 u25 u26 w1 he hk
      simp [KnownD, Oper.looksAt, Op.operands, Call.operands, List.findIdx?_cons, Act.put] at hk
      simp only [Act.put, List.setIfInBounds_toArray, List.set_cons_succ, List.set_cons_zero]
    · go_wp2_with fail
      exact ⟨rfl, Ext.refl _, by show (_ : Value) = _; (first | rfl | simp); try rfl⟩
    · have k0 := hk
      obtain rfl : u0 = .int .u64 (n : Nat) := k0
      go_wp2_with fail
      exact ⟨rfl, Ext.refl _, by show (_ : Value) = _; (simp; omega); try rfl⟩
    · have k0 := hk
      obtain rfl : u1 = .bool false := k0
      go_wp2_with fail
      exact ⟨rfl, Ext.refl _, by show (_ : Value) = _; (first | rfl | simp); try rfl⟩
    · have k0 := hk
      obtain rfl : u2 = .bool false := k0
      have hb := he.block (heap_alloc_new _ _)
      have hc0 := blk_cell hb 0
      have hc1 := blk_cell hb 1
      simp at hc0 hc1
      clear hb
      go_wp2_with fail
      exact ⟨rfl, Ext.refl _, HZ0.out.ext ((Ext.alloc _ _).trans he)⟩
    · obtain ⟨k0, k1⟩ := hk
      obtain rfl : u2 = .bool false := k1
      have H0 := Lib.hid k0
      clear k0
      go_wp2_with fail
      refine (neg_z (17592186043904) (a) _ _ (H0.out) (by omega)).mono ?_
      rintro e w2 ⟨he2, x, rfl, hx⟩
      have HX := Lib.hid hx
      clear hx
      go_wp2_with fail
      exact ⟨rfl, he2, HX.out⟩
    · obtain ⟨k0, k1⟩ := hk
      obtain rfl : u2 = .bool false := k1
      have H0 : Hid (IsC (17592186043904) (-(a)) u4 w1) := Lib.hid (by first | exact k0 | simpa using k0)
      clear k0
      go_wp2_with fail
      refine (bitLen_z (17592186043904) (-(a)) _ _ (H0.out.z) (by omega)).mono ?_
      rintro e w2 ⟨he2, x, rfl, hx⟩
      obtain rfl : x = .int .i64 (blen (a) : Nat) := hx.trans (by rw [blen_neg])
      go_wp2_with fail
      exact ⟨rfl, he2, rfl⟩
    · have k0 := hk
      obtain rfl : u2 = .bool false := k0
      have hb := he.block (heap_alloc_new _ _)
      have hc0 := blk_cell hb 0
      have hc1 := blk_cell hb 1
      simp at hc0 hc1
      clear hb
      go_wp2_with fail
      exact ⟨rfl, Ext.refl _, HZ0.out.ext ((Ext.alloc _ _).trans he)⟩
    · obtain ⟨k0, k1⟩ := hk
      obtain rfl : u2 = .bool false := k1
      have H0 := Lib.hid k0
      clear k0
      go_wp2_with fail
      refine (bitLen_z (17592186043904) (a) _ _ (H0.out) (by omega)).mono ?_
      rintro e w2 ⟨he2, x, rfl, hx⟩
      obtain rfl : x = .int .i64 (blen (a) : Nat) := hx
      go_wp2_with fail
      exact ⟨rfl, he2, rfl⟩
    · obtain ⟨k0, k1, k2⟩ := hk
      obtain rfl : u5 = .int .i64 (blen (a) : Nat) := k0
      obtain rfl : u7 = .int .i64 (blen (a) : Nat) := k1
      obtain rfl : u2 = .bool false := k2
      go_wp2_with fail
      exact ⟨rfl, Ext.refl _, by show (_ : Value) = _; (simp); try rfl⟩
    · obtain ⟨k0, k1⟩ := hk
      obtain rfl : u8 = .bool true := k0
      obtain rfl : u2 = .bool false := k1
      go_wp2_with fail
      exact ⟨rfl, Ext.refl _, by show (_ : Value) = _; (first | rfl | simp); try rfl⟩
    · have k0 := hk
      obtain rfl : u9 = .bool true := k0
      have hb := he.block (heap_alloc_new _ _)
      have hc0 := blk_cell hb 0
      have hc1 := blk_cell hb 1
      simp at hc0 hc1
      clear hb
      go_wp2_with fail
      exact ⟨rfl, Ext.refl _, HZ0.out.ext ((Ext.alloc _ _).trans he)⟩
    · obtain ⟨k0, k1⟩ := hk
      obtain rfl : u9 = .bool true := k1
      have H0 := Lib.hid k0
      clear k0
      go_wp2_with fail
      refine (zero_z (17592186043904) (a) _ _ (H0.out) (by omega)).mono ?_
      rintro e w2 ⟨he2, x, rfl, hx⟩
      obtain rfl : x = .bool false := hx.trans (by have := HC.out; simp; omega)
      go_wp2_with fail
      exact ⟨rfl, he2, rfl⟩
    · obtain ⟨k0, k1⟩ := hk
      obtain rfl : u11 = .bool false := k0
      obtain rfl : u9 = .bool true := k1
      go_wp2_with fail
      exact ⟨rfl, Ext.refl _, by show (_ : Value) = _; (first | rfl | simp); try rfl⟩
    · have k0 := hk
      obtain rfl : u12 = .bool false := k0
      have hb := he.block (heap_alloc_new _ _)
      have hc0 := blk_cell hb 0
      have hc1 := blk_cell hb 1
      simp at hc0 hc1
      clear hb
      go_wp2_with fail
      exact ⟨rfl, Ext.refl _, HZ0.out.ext ((Ext.alloc _ _).trans he)⟩
    · have k0 := hk
      obtain rfl : u12 = .bool false := k0
      go_wp2_with fail
      exact ⟨rfl, Ext.refl _, by show (_ : Value) = _; (first | rfl | simp); try rfl⟩
    · obtain ⟨k0, k1, k2⟩ := hk
      obtain rfl : u14 = .int .u64 (n : Nat) := k1
      obtain rfl : u12 = .bool false := k2
      have H0 := Lib.hid k0
      clear k0
      go_wp2_with fail
      refine (lsh_n (17592186043904) (a) (n) _ _ (H0.out) (by omega) (by omega)).mono ?_
      rintro e w2 ⟨he2, x, rfl, hx⟩
      have HX := Lib.hid hx
      clear hx
      go_wp2_with fail
      exact ⟨rfl, he2, HX.out⟩
    · obtain ⟨k0, k1⟩ := hk
      obtain rfl : u12 = .bool false := k1
      have H0 : Hid (IsC (17592186043969) ((a) * 2 ^ (n)) u15 w1) := Lib.hid (by first | exact k0 | simpa using k0)
      clear k0
      go_wp2_with fail
      refine (bitLen_z (17592186043969) ((a) * 2 ^ (n)) _ _ (H0.out.z) (by omega)).mono ?_
      rintro e w2 ⟨he2, x, rfl, hx⟩
      obtain rfl : x = .int .i64 (blen (a) + n : Nat) := hx.trans (by rw [blen_shl HC.out])
      go_wp2_with fail
      exact ⟨rfl, he2, rfl⟩
    · have k0 := hk
      obtain rfl : u12 = .bool false := k0
      have hb := he.block (heap_alloc_new _ _)
      have hc0 := blk_cell hb 0
      have hc1 := blk_cell hb 1
      simp at hc0 hc1
      clear hb
      go_wp2_with fail
      exact ⟨rfl, Ext.refl _, HZ0.out.ext ((Ext.alloc _ _).trans he)⟩
    · obtain ⟨k0, k1⟩ := hk
      obtain rfl : u12 = .bool false := k1
      have H0 := Lib.hid k0
      clear k0
      go_wp2_with fail
      refine (bitLen_z (17592186043904) (a) _ _ (H0.out) (by omega)).mono ?_
      rintro e w2 ⟨he2, x, rfl, hx⟩
      obtain rfl : x = .int .i64 (blen (a) : Nat) := hx
      go_wp2_with fail
      exact ⟨rfl, he2, rfl⟩
    · have k0 := hk
      obtain rfl : u12 = .bool false := k0
      go_wp2_with fail
      exact ⟨rfl, Ext.refl _, by show (_ : Value) = _; (first | rfl | simp); try rfl⟩
    · obtain ⟨k0, k1⟩ := hk
      obtain rfl : u19 = .int .u64 (n : Nat) := k0
      obtain rfl : u12 = .bool false := k1
      go_wp2_with fail
      exact ⟨rfl, Ext.refl _, by show (_ : Value) = _; (first | rfl | simp); try rfl⟩
    · obtain ⟨k0, k1, k2⟩ := hk
      obtain rfl : u18 = .int .i64 (blen (a) : Nat) := k0
      obtain rfl : u20 = .int .i64 (n : Nat) := k1
      obtain rfl : u12 = .bool false := k2
      go_wp2_with fail
      exact ⟨rfl, Ext.refl _, by show (_ : Value) = _; (first | rfl | simp); try rfl⟩
    · obtain ⟨k0, k1, k2⟩ := hk
      obtain rfl : u16 = .int .i64 (blen (a) + n : Nat) := k0
      obtain rfl : u21 = .int .i64 (blen (a) + n : Nat) := k1
      obtain rfl : u12 = .bool false := k2
      go_wp2_with fail
      exact ⟨rfl, Ext.refl _, by show (_ : Value) = _; (simp); try rfl⟩
    · obtain ⟨k0, k1, k2⟩ := hk
      obtain rfl : u12 = .bool false := k0
      obtain rfl : u22 = .bool true := k1
      obtain rfl : u9 = .bool true := k2
      go_wp2_with fail
      exact ⟨rfl, Ext.refl _, by show (_ : Value) = _; (first | rfl | simp); try rfl⟩
    · obtain ⟨k0, k1, k2⟩ := hk
      obtain rfl : u9 = .bool true := k0
      obtain rfl : u23 = .bool true := k1
      obtain rfl : u2 = .bool false := k2
      go_wp2_with fail
      exact ⟨rfl, Ext.refl _, by show (_ : Value) = _; (first | rfl | simp); try rfl⟩
    · obtain ⟨k0, k1⟩ := hk
      obtain rfl : u2 = .bool false := k0
      obtain rfl : u24 = .bool true := k1
      go_wp2_with fail
      exact ⟨rfl, Ext.refl _, by show (_ : Value) = _; (first | rfl | simp); try rfl⟩
  case last =>
    intro w1 he u0 h0 u1 h1 u2 h2 u3 h3 u4 h4 u5 h5 u6 h6 u7 h7 u8 h8 u9 h9 u10 h10 u11 h11 u12 h12 u13 h13 u14 h14 u15 h15 u16 h16 u17 h17 u18 h18 u19 h19 u20 h20 u21 h21 u22 h22 u23 h23 u24 h24 u25 h25
    obtain rfl : u25 = .bool true := h25
    clear h0 h1 h2 h3 h4 h5 h6 h7 h8 h9 h10 h11 h12 h13 h14 h15 h16 h17 h18 h19 h20 h21 h22 h23 h24
    simp only [LastD, Act.put, List.setIfInBounds_toArray, List.set_cons_succ, List.set_cons_zero]
    have HE := Lib.hid ((Ext.alloc _ _).trans he)
    clear he
    go_wp2_with fail
    go_ret
    exact ⟨HE.out, rfl⟩

theorem fnBitLenShift_walk (n0 : Bool) (v0 : Value) (ws0 : List Nat) (n : Int) (w : World) (hr0 : Rd .u64 w v0 ws0) (hl0 : ws0.length ≤ 17592186043904) (hn : (Lit.int .u64 n).wf = true) :
    Calls Try.prog 10 #[.agg #[.bool n0, v0], .int .u64 n] w (ValR (.bool true) w) := by
  obtain ⟨n, rfl, hn⟩ := u64_nat hn
  by_cases h1 : n ≤ 4096
  · by_cases h2 : ival n0 ws0 = 0
    · exact fnBitLenShift_walk_2 n0 v0 ws0 n w hr0 hl0 h1 h2
    · exact fnBitLenShift_walk_3 n0 v0 ws0 n w hr0 hl0 h1 h2
  · exact fnBitLenShift_walk_1 n0 v0 ws0 n w hr0 hl0 (by omega)

end Go.Proofs.Ytdodcmncdlnceaa

