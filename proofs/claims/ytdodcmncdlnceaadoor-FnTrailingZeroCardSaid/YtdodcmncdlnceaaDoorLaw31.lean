/- spec.TrailingZeroBits, FnExactTrailingZeroBits, FnTrailingZero (printed by lawgen.py). -/
import Derived.Test.YtdodcmncdlnceaaDoorTzMath
import Derived.Test.YtdodcmncdlnceaaDoorOf
import Derived.Test.YtdodcmncdlnceaaDoorRow
import Derived.Test.YtdodcmncdlnceaaDoorBits
set_option linter.unusedSimpArgs false
set_option linter.unusedVariables false
namespace Go.Proofs.YtdodcmncdlnceaaDoor
open Go.RowKit

theorem bit_below {v k : Nat} (h : k < tzN v) : bitN v k = 0 := by
  have h0 : v ≠ 0 := fun e => by rw [e, tz_zero] at h; omega
  obtain ⟨m, hm⟩ := tz_spec h0
  generalize tzN v = t at *
  obtain ⟨d, rfl⟩ : ∃ d, t = k + (d + 1) := ⟨t - k - 1, by omega⟩
  unfold bitN
  rw [hm, Nat.pow_add, Nat.mul_assoc, Nat.mul_div_cancel_left _ (Nat.pow_pos (by decide)), Nat.pow_succ, Nat.mul_comm (2 ^ d) 2, Nat.mul_assoc, Nat.mul_mod_right]

theorem bit_at {v : Nat} (h : v ≠ 0) : bitN v (tzN v) = 1 := by
  obtain ⟨m, hm⟩ := tz_spec h
  unfold bitN
  conv => lhs; arg 1; arg 1; rw [hm]
  rw [Nat.mul_div_cancel_left _ (Nat.pow_pos (by decide))]
  omega

set_option maxRecDepth 10000 in
set_option maxHeartbeats 1000000 in
theorem specTz_z (L : Nat) (z : Int) (x : Value) (w : World) (h : IsZ L z x w) (hL : L ≤ 17592186043904) (hz : z ≠ 0) :
    Calls Tryd.prog 9 #[x] w (ResR (Is (.int .u64 (tzN z.natAbs : Nat))) w) := by
  have HZ := Lib.hid h
  obtain ⟨nn, s, ws, rfl, hr, hl, hzz⟩ := h
  obtain ⟨a, c, rfl⟩ := hr.form
  have hvz : z.natAbs = val ws := by rw [← hzz, ival_abs]
  have hv0 : val ws ≠ 0 := by omega
  have HZC := Lib.hid hz
  have hle : tzN (val ws) ≤ 64 * L := by rw [← hvz]; exact HZ.out.tz_le
  rw [hvz]
  have hb1 := fun k => bit_below (v := val ws) (k := k)
  have hb2 := bit_at hv0
  have HR := Lib.hid hr
  generalize hv : val ws = v at *
  generalize ht : tzN v = t at *
  have HV := Lib.hid hv
  have HB1 := Lib.hid hb1
  have HB2 := Lib.hid hb2
  have HT := Lib.hid ht
  have ht1 : t ≤ 1125899906842624 := by omega
  clear hr hzz hvz hv0 hv hb1 hb2 ht hz hle
  go_enter Tryd.func9, Tryd.ntmps9
  go_wp2_with fail
  go_loopw [3] (fun v3 wr => ∃ k : Nat, k ≤ t ∧ v3 = .int .i64 (k : Nat) ∧ Ext (w.alloc (.cells #[.bool nn, .slice a ws.length c] 26)) wr) (fun v3 _ => t - (intOf v3).toNat)
  case atStart => exact ⟨0, by omega, rfl, Ext.refl _⟩
  case round =>
    obtain ⟨k, hk, rfl, he⟩ := hrel
    have HE := Lib.hid he
    have hb := he.block (heap_alloc_new w (.cells #[.bool nn, .slice a ws.length c] 26))
    have d0 := blk_cell hb 0
    have d1 := blk_cell hb 1
    simp at d0 d1
    have HBB := Lib.hid hb
    clear he hb
    go_wp2_with fail
    refine (isZero_z L z _ _ (HZ.out.ext ((Ext.alloc _ _).trans HE.out)) (by omega)).mono ?_
    rintro e w1 ⟨he, y, rfl, hy⟩
    obtain rfl : y = .bool false := hy.trans (by have := HZC.out; simp [this])
    replace HE := Lib.hid (HE.out.trans he)
    replace HBB := Lib.hid (he.block HBB.out)
    clear he hy d0 d1
    have d0 := blk_cell HBB.out 0
    have d1 := blk_cell HBB.out 1
    simp at d0 d1
    by_cases hkt : k < t
    · go_wp2_with fail
      refine (bit_any _ ws k 0 _ (HR.out.ext ((Ext.alloc _ _).trans HE.out)) (by omega) (by rw [HV.out]; exact HB1.out k hkt)).mono ?_
      rintro e w2 ⟨rfl, rfl⟩
      go_wp2_with fail
      go_roundw
      case rel => exact ⟨k + 1, by omega, by go_num, HE.out⟩
      case measure => simp [intOf]; omega
    · obtain rfl : k = t := by omega
      go_wp2_with fail
      refine (bit_any _ ws k 1 _ (HR.out.ext ((Ext.alloc _ _).trans HE.out)) (by omega) (by rw [HV.out]; exact HB2.out)).mono ?_
      rintro e w2 ⟨rfl, rfl⟩
      go_wp2_with fail
      go_ret
      exact ⟨(Ext.alloc _ _).trans HE.out, _, rfl, rfl⟩

set_option maxHeartbeats 1000000 in
theorem fnExactTrailingZeroBits_z (n0 : Bool) (v0 : Value) (ws0 : List Nat) (w : World) (hr0 : Rd .u64 w v0 ws0) (hl0 : ws0.length ≤ 17592186043904) (ht : Tab64 w) (hc : ival n0 ws0 = 0) :
    Calls Tryd.prog 3 #[.agg #[.bool n0, v0]] w (ValR (.bool true) w) := by
  obtain ⟨a0, c0, rfl⟩ := hr0.form
  have hz0 : IsZ 17592186043904 (ival n0 ws0) (.agg #[.bool n0, .slice a0 ws0.length c0]) w := ⟨n0, _, ws0, rfl, hr0, hl0, rfl⟩
  generalize hg0 : ival n0 ws0 = za at hz0
  have HZ0 := Lib.hid hz0
  have HG0 := Lib.hid hg0
  clear hz0 hg0 hr0
  have HT9 := Lib.hid ht
  have HC := Lib.hid (show za = 0 by rw [← HG0.out]; exact hc)
  clear ht hc
  go_enter Tryd.func3, Tryd.ntmps3
  go_wp2_with fail
  refine wp_region_D preExt mixed [IsZ (17592186043904) (za), IsW (17592186043904) (za), Is (.bool true), Is (.bool true), Is undef, Is undef, Is undef, Is undef, Is undef, Is undef, Is undef, Is (.bool true)] (by kernel_rfl) ?mono rfl ?steps ?last
  case mono =>
    simp only [List.forall_mem_cons, List.not_mem_nil, false_implies, implies_true, and_true]
    refine ⟨?_, ?_, ?_, ?_, ?_, ?_, ?_, ?_, ?_, ?_, ?_, ?_⟩
    all_goals first | exact fun _ _ _ _ q => q | exact fun _ _ _ he q => q.ext he
  case steps =>
    refine ⟨?_, ?_, ?_, ?_, ?_, ?_, ?_, ?_, ?_, ?_, ?_, ?_, trivial⟩
    all_goals
      intro u0 u1 u2 u3 u4 u5 u6 u7 u8 u9 u10 u11 u12 w1 he hk
      simp [KnownD, Oper.looksAt, Op.operands, Call.operands, List.findIdx?_cons, Act.put] at hk
      simp only [Act.put, List.setIfInBounds_toArray, List.set_cons_succ, List.set_cons_zero]
    · have hb := he.block (heap_alloc_new _ _)
      have hc0 := blk_cell hb 0
      have hc1 := blk_cell hb 1
      simp at hc0 hc1
      clear hb
      go_wp2_with fail
      exact ⟨rfl, Ext.refl _, HZ0.out.ext ((Ext.alloc _ _).trans he)⟩
    · have k0 := hk
      have H0 := Lib.hid k0
      clear k0
      go_wp2_with fail
      refine (toSpec_z (17592186043904) (za) _ _ (H0.out) (by omega)).mono ?_
      rintro e w2 ⟨he2, x, rfl, hx⟩
      have HX := Lib.hid hx
      clear hx
      go_wp2_with fail
      exact ⟨rfl, he2, HX.out⟩
    · have k0 := hk
      have H0 := Lib.hid k0
      clear k0
      go_wp2_with fail
      refine (isZero_z (17592186043904) (za) _ _ (H0.out.z) (by omega)).mono ?_
      rintro e w2 ⟨he2, x, rfl, hx⟩
      obtain rfl : x = .bool true := hx.trans (by have := HC.out; simpa using this)
      go_wp2_with fail
      exact ⟨rfl, he2, rfl⟩
    · have k0 := hk
      obtain rfl : u2 = .bool true := k0
      go_wp2_with fail
      exact ⟨rfl, Ext.refl _, by show (_ : Value) = _; (first | rfl | simp); try rfl⟩
    · have k0 := hk
      obtain rfl : u3 = .bool true := k0
      go_wp2_with fail
      exact ⟨rfl, Ext.refl _, rfl⟩
    · obtain ⟨k0, k1⟩ := hk
      obtain rfl : u4 = undef := k0
      obtain rfl : u3 = .bool true := k1
      go_wp2_with fail
      exact ⟨rfl, Ext.refl _, rfl⟩
    · obtain ⟨k0, k1⟩ := hk
      obtain rfl : u5 = undef := k0
      obtain rfl : u3 = .bool true := k1
      go_wp2_with fail
      exact ⟨rfl, Ext.refl _, rfl⟩
    · have k0 := hk
      obtain rfl : u3 = .bool true := k0
      go_wp2_with fail
      exact ⟨rfl, Ext.refl _, rfl⟩
    · obtain ⟨k0, k1⟩ := hk
      obtain rfl : u7 = undef := k0
      obtain rfl : u3 = .bool true := k1
      go_wp2_with fail
      exact ⟨rfl, Ext.refl _, rfl⟩
    · obtain ⟨k0, k1⟩ := hk
      obtain rfl : u8 = undef := k0
      obtain rfl : u3 = .bool true := k1
      go_wp2_with fail
      exact ⟨rfl, Ext.refl _, rfl⟩
    · obtain ⟨k0, k1, k2⟩ := hk
      obtain rfl : u6 = undef := k0
      obtain rfl : u9 = undef := k1
      obtain rfl : u3 = .bool true := k2
      go_wp2_with fail
      exact ⟨rfl, Ext.refl _, rfl⟩
    · obtain ⟨k0, k1⟩ := hk
      obtain rfl : u3 = .bool true := k0
      obtain rfl : u10 = undef := k1
      go_wp2_with fail
      exact ⟨rfl, Ext.refl _, by show (_ : Value) = _; (first | rfl | simp); try rfl⟩
  case last =>
    intro w1 he u0 h0 u1 h1 u2 h2 u3 h3 u4 h4 u5 h5 u6 h6 u7 h7 u8 h8 u9 h9 u10 h10 u11 h11
    obtain rfl : u11 = .bool true := h11
    clear h0 h1 h2 h3 h4 h5 h6 h7 h8 h9 h10
    simp only [LastD, Act.put, List.setIfInBounds_toArray, List.set_cons_succ, List.set_cons_zero]
    have HE := Lib.hid ((Ext.alloc _ _).trans he)
    clear he
    go_wp2_with fail
    go_ret
    exact ⟨HE.out, rfl⟩

set_option maxHeartbeats 1000000 in
theorem fnExactTrailingZeroBits_n (n0 : Bool) (v0 : Value) (ws0 : List Nat) (w : World) (hr0 : Rd .u64 w v0 ws0) (hl0 : ws0.length ≤ 17592186043904) (ht : Tab64 w) (hc : ival n0 ws0 ≠ 0) :
    Calls Tryd.prog 3 #[.agg #[.bool n0, v0]] w (ValR (.bool true) w) := by
  obtain ⟨a0, c0, rfl⟩ := hr0.form
  have hz0 : IsZ 17592186043904 (ival n0 ws0) (.agg #[.bool n0, .slice a0 ws0.length c0]) w := ⟨n0, _, ws0, rfl, hr0, hl0, rfl⟩
  generalize hg0 : ival n0 ws0 = za at hz0
  have HZ0 := Lib.hid hz0
  have HG0 := Lib.hid hg0
  clear hz0 hg0 hr0
  have HT9 := Lib.hid ht
  have HC := Lib.hid (show za ≠ 0 by rw [← HG0.out]; exact hc)
  clear ht hc
  go_enter Tryd.func3, Tryd.ntmps3
  go_wp2_with fail
  refine wp_region_D preExt mixed [IsZ (17592186043904) (za), IsW (17592186043904) (za), Is (.bool false), Is (.bool false), IsZ (17592186043904) (za), IsW (17592186043904) (za), Is (.int .u64 (tzN ((za) : Int).natAbs : Nat)), IsZ (17592186043904) (za), IsW (17592186043904) (za), Is (.int .u64 (tzN ((za) : Int).natAbs : Nat)), Is (.bool true), Is (.bool true)] (by kernel_rfl) ?mono rfl ?steps ?last
  case mono =>
    simp only [List.forall_mem_cons, List.not_mem_nil, false_implies, implies_true, and_true]
    refine ⟨?_, ?_, ?_, ?_, ?_, ?_, ?_, ?_, ?_, ?_, ?_, ?_⟩
    all_goals first | exact fun _ _ _ _ q => q | exact fun _ _ _ he q => q.ext he
  case steps =>
    refine ⟨?_, ?_, ?_, ?_, ?_, ?_, ?_, ?_, ?_, ?_, ?_, ?_, trivial⟩
    all_goals
      intro u0 u1 u2 u3 u4 u5 u6 u7 u8 u9 u10 u11 u12 w1 he hk
      simp [KnownD, Oper.looksAt, Op.operands, Call.operands, List.findIdx?_cons, Act.put] at hk
      simp only [Act.put, List.setIfInBounds_toArray, List.set_cons_succ, List.set_cons_zero]
    · have hb := he.block (heap_alloc_new _ _)
      have hc0 := blk_cell hb 0
      have hc1 := blk_cell hb 1
      simp at hc0 hc1
      clear hb
      go_wp2_with fail
      exact ⟨rfl, Ext.refl _, HZ0.out.ext ((Ext.alloc _ _).trans he)⟩
    · have k0 := hk
      have H0 := Lib.hid k0
      clear k0
      go_wp2_with fail
      refine (toSpec_z (17592186043904) (za) _ _ (H0.out) (by omega)).mono ?_
      rintro e w2 ⟨he2, x, rfl, hx⟩
      have HX := Lib.hid hx
      clear hx
      go_wp2_with fail
      exact ⟨rfl, he2, HX.out⟩
    · have k0 := hk
      have H0 := Lib.hid k0
      clear k0
      go_wp2_with fail
      refine (isZero_z (17592186043904) (za) _ _ (H0.out.z) (by omega)).mono ?_
      rintro e w2 ⟨he2, x, rfl, hx⟩
      obtain rfl : x = .bool false := hx.trans (by have := HC.out; simpa using this)
      go_wp2_with fail
      exact ⟨rfl, he2, rfl⟩
    · have k0 := hk
      obtain rfl : u2 = .bool false := k0
      go_wp2_with fail
      exact ⟨rfl, Ext.refl _, by show (_ : Value) = _; (first | rfl | simp); try rfl⟩
    · have k0 := hk
      obtain rfl : u3 = .bool false := k0
      have hb := he.block (heap_alloc_new _ _)
      have hc0 := blk_cell hb 0
      have hc1 := blk_cell hb 1
      simp at hc0 hc1
      clear hb
      go_wp2_with fail
      exact ⟨rfl, Ext.refl _, HZ0.out.ext ((Ext.alloc _ _).trans he)⟩
    · obtain ⟨k0, k1⟩ := hk
      obtain rfl : u3 = .bool false := k1
      have H0 := Lib.hid k0
      clear k0
      go_wp2_with fail
      refine (toImpl_z (17592186043904) (za) _ _ (H0.out) (by omega)).mono ?_
      rintro e w2 ⟨he2, x, rfl, hx⟩
      have HX := Lib.hid hx
      clear hx
      go_wp2_with fail
      exact ⟨rfl, he2, HX.out⟩
    · obtain ⟨k0, k1⟩ := hk
      obtain rfl : u3 = .bool false := k1
      have H0 := Lib.hid k0
      clear k0
      go_wp2_with fail
      refine (implTz_z (17592186043904) (za) _ _ (H0.out.z) (by omega) (HT9.out.ext ((Ext.alloc _ _).trans he))).mono ?_
      rintro e w2 ⟨he2, x, rfl, hx⟩
      obtain rfl : x = .int .u64 (tzN ((za) : Int).natAbs : Nat) := hx
      go_wp2_with fail
      exact ⟨rfl, he2, rfl⟩
    · have k0 := hk
      obtain rfl : u3 = .bool false := k0
      have hb := he.block (heap_alloc_new _ _)
      have hc0 := blk_cell hb 0
      have hc1 := blk_cell hb 1
      simp at hc0 hc1
      clear hb
      go_wp2_with fail
      exact ⟨rfl, Ext.refl _, HZ0.out.ext ((Ext.alloc _ _).trans he)⟩
    · obtain ⟨k0, k1⟩ := hk
      obtain rfl : u3 = .bool false := k1
      have H0 := Lib.hid k0
      clear k0
      go_wp2_with fail
      refine (toSpec_z (17592186043904) (za) _ _ (H0.out) (by omega)).mono ?_
      rintro e w2 ⟨he2, x, rfl, hx⟩
      have HX := Lib.hid hx
      clear hx
      go_wp2_with fail
      exact ⟨rfl, he2, HX.out⟩
    · obtain ⟨k0, k1⟩ := hk
      obtain rfl : u3 = .bool false := k1
      have H0 := Lib.hid k0
      clear k0
      go_wp2_with fail
      refine (specTz_z (17592186043904) (za) _ _ (H0.out.z) (by omega) HC.out).mono ?_
      rintro e w2 ⟨he2, x, rfl, hx⟩
      obtain rfl : x = .int .u64 (tzN ((za) : Int).natAbs : Nat) := hx
      go_wp2_with fail
      exact ⟨rfl, he2, rfl⟩
    · obtain ⟨k0, k1, k2⟩ := hk
      obtain rfl : u6 = .int .u64 (tzN ((za) : Int).natAbs : Nat) := k0
      obtain rfl : u9 = .int .u64 (tzN ((za) : Int).natAbs : Nat) := k1
      obtain rfl : u3 = .bool false := k2
      go_wp2_with fail
      exact ⟨rfl, Ext.refl _, by show (_ : Value) = _; (simp); try rfl⟩
    · obtain ⟨k0, k1⟩ := hk
      obtain rfl : u3 = .bool false := k0
      obtain rfl : u10 = .bool true := k1
      go_wp2_with fail
      exact ⟨rfl, Ext.refl _, by show (_ : Value) = _; (first | rfl | simp); try rfl⟩
  case last =>
    intro w1 he u0 h0 u1 h1 u2 h2 u3 h3 u4 h4 u5 h5 u6 h6 u7 h7 u8 h8 u9 h9 u10 h10 u11 h11
    obtain rfl : u11 = .bool true := h11
    clear h0 h1 h2 h3 h4 h5 h6 h7 h8 h9 h10
    simp only [LastD, Act.put, List.setIfInBounds_toArray, List.set_cons_succ, List.set_cons_zero]
    have HE := Lib.hid ((Ext.alloc _ _).trans he)
    clear he
    go_wp2_with fail
    go_ret
    exact ⟨HE.out, rfl⟩

theorem fnExactTrailingZeroBits_walk (n0 : Bool) (v0 : Value) (ws0 : List Nat) (w : World) (ht : Tab64 w) (hr0 : Rd .u64 w v0 ws0) (hl0 : ws0.length ≤ 17592186043904) :
    Calls Tryd.prog 3 #[.agg #[.bool n0, v0]] w (ValR (.bool true) w) := by
  by_cases h : ival n0 ws0 = 0
  · exact fnExactTrailingZeroBits_z n0 v0 ws0 w hr0 hl0 ht h
  · exact fnExactTrailingZeroBits_n n0 v0 ws0 w hr0 hl0 ht h

theorem made_words (w : World) (n : Nat) (hn : n ≤ 9223372036854775807) : Rd .u64 (w.alloc (.cells (madeCells #[Value.int .u64 0] n) 28)) (.slice (some ⟨w.heap.size, 0, none⟩) n n) (List.replicate n 0) := by
  refine ⟨fun x hx => by rw [List.eq_of_mem_replicate hx]; decide, _, n, by rw [List.length_replicate], by simp, hn, by simp, fun i hi => ⟨w.heap.size, 0, rfl, ?_⟩⟩
  have hi' : i < n := by simpa using hi
  rw [blk_cell (heap_alloc_new _ _), Nat.zero_add]
  simp [madeCells, hi', Nat.mod_one]

theorem val_zeros0 (n : Nat) : val (List.replicate n 0) = 0 := by
  induction n with
  | zero => rfl
  | succ n ih => rw [List.replicate_succ, val, ih]

set_option maxRecDepth 10000 in
set_option maxHeartbeats 1000000 in
theorem fnTrailingZero_walk (x : Int) (w : World) (ht : Tab64 w) (hx : (Lit.int .u64 x).wf = true) :
    Calls Tryd.prog 4 #[.int .u64 x] w (ValR (.bool true) w) := by
  have hxb : 0 ≤ x ∧ x ≤ 18446744073709551615 := by simpa [Lit.wf, IntKind.min, IntKind.max, IntKind.signed, IntKind.bits] using hx
  obtain ⟨n, rfl⟩ : ∃ n : Nat, x = n := ⟨x.toNat, by omega⟩
  obtain ⟨m, hm⟩ : ∃ m, n % 41 = m := ⟨_, rfl⟩
  have hmi : (n : Int) % 41 = (m : Int) := by omega
  have hml : m ≤ 40 := by omega
  obtain ⟨i0, hi, hz0, hz1, hz2⟩ := info_parts infoUint
  have hmk := fun wx : World => run_make (P := Tryd.prog) wx 22 28 i0 _ Tryd.underlying22 hi hz0 .u64 .u64 (m : Int) (m : Int) (by omega) (by omega) (by rw [hz2]; omega) (by omega)
  rw [hz1, Int.toNat_natCast, Nat.mul_one] at hmk
  have HT := Lib.hid ht
  clear hi hz0 hz1 hz2 ht hx hm hxb
  go_enter Tryd.func4, Tryd.ntmps4
  go_wp2_with fail
  have hr := made_words w m (by omega)
  have hz1 : IsZ 40 0 (.agg #[.bool false, .slice (some ⟨w.heap.size, 0, none⟩) m m]) (w.alloc (.cells (madeCells #[Value.int .u64 0] m) 28)) := ⟨false, _, _, rfl, hr, by simpa using hml, by simp [ival, val_zeros0]⟩
  have hz2 : IsZ 40 0 (.agg #[.bool true, .slice (some ⟨w.heap.size, 0, none⟩) m m]) (w.alloc (.cells (madeCells #[Value.int .u64 0] m) 28)) := ⟨true, _, _, rfl, hr, by simpa using hml, by simp [ival, val_zeros0]⟩
  have HZ1 := Lib.hid hz1
  have HZ2 := Lib.hid hz2
  clear hr hz1 hz2 hmk
  refine (trailing_z 40 0 _ _ HZ1.out (by omega) (HT.out.ext (Ext.alloc _ _))).mono ?_
  rintro e w1 ⟨he, y1, rfl, hy⟩
  obtain rfl : y1 = .int .u64 0 := hy
  have HE := Lib.hid he
  clear he
  go_wp2_with fail
  refine (trailing_z 40 0 _ _ (HZ2.out.ext HE.out) (by omega) (HT.out.ext ((Ext.alloc _ _).trans HE.out))).mono ?_
  rintro e w2 ⟨he, y2, rfl, hy⟩
  obtain rfl : y2 = .int .u64 0 := hy
  replace HE := Lib.hid (HE.out.trans he)
  clear he
  go_wp2_with fail
  refine (of_z 8 _ (by decide) (by decide)).mono ?_
  rintro e w3 ⟨he, y3, rfl, hy⟩
  replace HE := Lib.hid (HE.out.trans he)
  have HY := Lib.hid hy
  clear he hy
  go_wp2_with fail
  refine (trailing_z 1 8 _ _ HY.out.z (by omega) (HT.out.ext ((Ext.alloc _ _).trans HE.out))).mono ?_
  rintro e w4 ⟨he, y4, rfl, hy⟩
  obtain rfl : y4 = .int .u64 3 := hy.trans (by rw [tz_eight]; rfl)
  replace HE := Lib.hid (HE.out.trans he)
  clear he hy
  go_wp2_with fail
  go_ret
  exact ⟨(Ext.alloc _ _).trans HE.out, rfl⟩

end Go.Proofs.YtdodcmncdlnceaaDoor

