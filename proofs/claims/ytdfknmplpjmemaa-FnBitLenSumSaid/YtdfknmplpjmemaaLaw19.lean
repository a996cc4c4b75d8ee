/- FnBitLenSum (printed by lawgen.py). -/
import Derived.Test.YtdfknmplpjmemaaAddZ
import Derived.Test.YtdfknmplpjmemaaLshZ
import Derived.Test.YtdfknmplpjmemaaBitLen
import Derived.Test.YtdfknmplpjmemaaLaw11
import Derived.Test.YtdfknmplpjmemaaHelpers
set_option linter.unusedSimpArgs false
set_option linter.unusedVariables false
namespace Go.Proofs.Ytdfknmplpjmemaa
open Go.RowKit

theorem blen_mono {x y : Int} (h : x.natAbs ≤ y.natAbs) : blen x ≤ blen y := by
  unfold blen
  rw [blenN_le_iff]
  exact Nat.lt_of_le_of_lt h (lt_blenN _)

theorem blen_sum (x y : Int) : blen (x + y) ≤ max (blen x) (blen y) + 1 := by
  unfold blen
  rw [blenN_le_iff, Nat.pow_succ]
  have h1 := lt_blenN x.natAbs
  have h2 := lt_blenN y.natAbs
  have h3 : 2 ^ blenN x.natAbs ≤ 2 ^ max (blenN x.natAbs) (blenN y.natAbs) := Nat.pow_le_pow_right (by decide) (Nat.le_max_left _ _)
  have h4 : 2 ^ blenN y.natAbs ≤ 2 ^ max (blenN x.natAbs) (blenN y.natAbs) := Nat.pow_le_pow_right (by decide) (Nat.le_max_right _ _)
  omega

theorem blen_zero (x : Int) : blen x = 0 ↔ x = 0 := by
  have h := blenN_le_iff x.natAbs 0
  unfold blen
  simp at h
  omega

theorem cmpAbs_gt (a b : Int) : decide (0 < cmpZ a b) = decide (b < a) := by
  unfold cmpZ
  split
  · simp; omega
  · split
    · simp; omega
    · simp; omega

theorem blen_eqz (a : Int) : Value.bool (((blen a : Nat) : Int) == 0) = .bool (decide (a = 0)) := by
  have := blen_zero a
  congr 1
  rw [Bool.eq_iff_iff]
  simp
  omega

theorem maxB (m n : Nat) : max (m : Int) (n : Int) = ((max m n : Nat) : Int) := by omega

set_option maxRecDepth 10000 in
set_option maxHeartbeats 2000000 in
theorem fnBitLenSum_n  (n0 : Bool) (v0 : Value) (ws0 : List Nat) (n1 : Bool) (v1 : Value) (ws1 : List Nat) (w : World) (hr0 : Rd .u64 w v0 ws0) (hl0 : ws0.length ≤ 17592186043904) (hr1 : Rd .u64 w v1 ws1) (hl1 : ws1.length ≤ 17592186043904) (hc : (ival n0 ws0).natAbs ≤ (ival n1 ws1).natAbs) :
    Calls Try.prog 7 #[.agg #[.bool n0, v0], .agg #[.bool n1, v1]] w (ValR (.bool true) w) := by
  obtain ⟨a0, c0, rfl⟩ := hr0.form
  have hz0 : IsZ 17592186043904 (ival n0 ws0) (.agg #[.bool n0, .slice a0 ws0.length c0]) w := ⟨n0, _, ws0, rfl, hr0, hl0, rfl⟩
  generalize hg0 : ival n0 ws0 = za at hz0
  have HZ0 := Lib.hid hz0
  have HG0 := Lib.hid hg0
  clear hz0 hg0 hr0
  obtain ⟨a1, c1, rfl⟩ := hr1.form
  have hz1 : IsZ 17592186043904 (ival n1 ws1) (.agg #[.bool n1, .slice a1 ws1.length c1]) w := ⟨n1, _, ws1, rfl, hr1, hl1, rfl⟩
  generalize hg1 : ival n1 ws1 = zb at hz1
  have HZ1 := Lib.hid hz1
  have HG1 := Lib.hid hg1
  clear hz1 hg1 hr1
  have HC := Lib.hid (show za.natAbs ≤ zb.natAbs by rw [← HG0.out, ← HG1.out]; exact hc)
  have hbx : blen za ≤ 64 * 17592186043904 := HZ0.out.blen_le
  have hby : blen zb ≤ 64 * 17592186043904 := HZ1.out.blen_le
  clear hc
  go_enter Try.func7, Try.ntmps7
  go_wp2_with fail
  have g0 := (Ext.alloc (w.alloc (.cells #[.bool n0, .slice a0 ws0.length c0] 24)) (.cells #[.bool n1, .slice a1 ws1.length c1] 24)).block (heap_alloc_new w (.cells #[.bool n0, .slice a0 ws0.length c0] 24))
  have g1 := heap_second w (.cells #[.bool n0, .slice a0 ws0.length c0] 24) (.cells #[.bool n1, .slice a1 ws1.length c1] 24)
  have hE0 : Ext w ((w.alloc (.cells #[.bool n0, .slice a0 ws0.length c0] 24)).alloc (.cells #[.bool n1, .slice a1 ws1.length c1] 24)) := (Ext.alloc _ _).trans (Ext.alloc _ _)
  have hsz3 : ((w.alloc (.cells #[.bool n0, .slice a0 ws0.length c0] 24)).alloc (.cells #[.bool n1, .slice a1 ws1.length c1] 24)).heap.size = w.heap.size + 1 + 1 := by simp
  generalize ((w.alloc (.cells #[.bool n0, .slice a0 ws0.length c0] 24)).alloc (.cells #[.bool n1, .slice a1 ws1.length c1] 24)) = w4 at *
  generalize hn0 : w4.heap.size = N0 at *
  have HE0 := Lib.hid hE0
  have G0 := Lib.hid g0
  have G1 := Lib.hid g1
  have HSZ := Lib.hid hsz3
  clear g0 g1 hE0 hsz3
  refine wp_region_D preExt mixed [IsZ (17592186043904) (za), Is (.int .i64 (blen (za) : Nat)), IsZ (17592186043904) (zb), Is (.int .i64 (blen (zb) : Nat)), Is (.int .i64 ((max (blen za) (blen zb) : Nat) : Int))] (by kernel_rfl) ?mono rfl ?steps ?last
  case mono =>
    simp only [List.forall_mem_cons, List.not_mem_nil, false_implies, implies_true, and_true]
    refine ⟨?_, ?_, ?_, ?_, ?_⟩
    all_goals first | exact fun _ _ _ _ q => q | exact fun _ _ _ he q => q.ext he
  case steps =>
    refine ⟨?_, ?_, ?_, ?_, ?_, trivial⟩
    all_goals
      intro u0 u1 u2 u3 u4 u5 w1 he hk
      simp [KnownD, Oper.looksAt, Op.operands, Call.operands, List.findIdx?_cons, Act.put] at hk
      simp only [Act.put, List.setIfInBounds_toArray, List.set_cons_succ, List.set_cons_zero]
    · have hb := he.block G0.out
      have q0 := blk_cell hb 0
      have q1 := blk_cell hb 1
      simp at q0 q1
      clear hb
      go_wp2_with fail
      exact ⟨rfl, Ext.refl _, HZ0.out.ext (HE0.out.trans he)⟩
    · have k0 := hk
      have H0 := Lib.hid k0
      clear k0
      go_wp2_with fail
      refine (bitLen_z (17592186043904) (za) _ _ (H0.out) (by omega)).mono ?_
      rintro e w2 ⟨he2, x, rfl, hx⟩
      obtain rfl : x = .int .i64 (blen (za) : Nat) := hx
      go_wp2_with fail
      exact ⟨rfl, he2, rfl⟩
    · have hb := he.block G1.out
      have q0 := blk_cell hb 0
      have q1 := blk_cell hb 1
      simp at q0 q1
      clear hb
      go_wp2_with fail
      exact ⟨rfl, Ext.refl _, HZ1.out.ext (HE0.out.trans he)⟩
    · have k0 := hk
      have H0 := Lib.hid k0
      clear k0
      go_wp2_with fail
      refine (bitLen_z (17592186043904) (zb) _ _ (H0.out) (by omega)).mono ?_
      rintro e w2 ⟨he2, x, rfl, hx⟩
      obtain rfl : x = .int .i64 (blen (zb) : Nat) := hx
      go_wp2_with fail
      exact ⟨rfl, he2, rfl⟩
    · obtain ⟨k0, k1⟩ := hk
      obtain rfl : u1 = .int .i64 (blen (za) : Nat) := k0
      obtain rfl : u3 = .int .i64 (blen (zb) : Nat) := k1
      go_wp2_with fail
      exact ⟨rfl, Ext.refl _, by show (_ : Value) = _; (first | rfl | (rw [maxB]; rfl)); try rfl⟩
  case last =>
    rename_i K aK
    have AK := Lib.hid aK
    clear aK
    intro w5 he u0 h0 u1 h1 u2 h2 u3 h3 u4 h4
    obtain rfl : u4 = .int .i64 ((max (blen za) (blen zb) : Nat) : Int) := h4
    clear h0 h1 h2 h3
    simp only [LastD, Act.put, List.setIfInBounds_toArray, List.set_cons_succ, List.set_cons_zero]
    have HE7 := Lib.hid (HE0.out.trans he)
    have Q0 := Lib.hid (he.block G0.out)
    have Q1 := Lib.hid (he.block G1.out)
    clear he
    go_wp2_with fail
    refine AK.out _ _ ?_
    clear AK
    go_wp2_with fail

    refine wp_region_D preExt mixed [IsZ (17592186043904) (za), IsZ (17592186043904) (zb), IsC (17592186043905) ((za) + (zb)), Is (.int .i64 (blen ((za) + (zb)) : Nat)), Is (.int .i64 ((max (blen za) (blen zb) : Nat) : Int)), Is (.int .i64 (((max (blen za) (blen zb) : Nat) : Int) + 1)), Is (.bool true), Is (.bool true), IsZ (17592186043904) (za), IsZ (17592186043904) (zb), Is (.int .i64 (cmpZ ((za).natAbs : Int) ((zb).natAbs : Int))), Is (.bool false), Is (.bool false), IsZ (17592186043904) (za), Is (.int .i64 (blen (za) : Nat)), IsZ (17592186043904) (zb), Is (.int .i64 (blen (zb) : Nat)), Is (.bool true), Is (.bool true), Is (.bool true), Is (.bool true), IsZ (17592186043904) (za), Is (.int .i64 (blen (za) : Nat)), Is (.bool (decide (za = 0))), IsZ (17592186043904) (za), Is (.bool (decide (za = 0))), Is (.bool true), Is (.bool true)] (by kernel_rfl) ?mono rfl ?steps ?last
    case mono =>
      simp only [List.forall_mem_cons, List.not_mem_nil, false_implies, implies_true, and_true]
      refine ⟨?_, ?_, ?_, ?_, ?_, ?_, ?_, ?_, ?_, ?_, ?_, ?_, ?_, ?_, ?_, ?_, ?_, ?_, ?_, ?_, ?_, ?_, ?_, ?_, ?_, ?_, ?_, ?_⟩
      all_goals first | exact fun _ _ _ _ q => q | exact fun _ _ _ he q => q.ext he
    case steps =>
      refine ⟨?_, ?_, ?_, ?_, ?_, ?_, ?_, ?_, ?_, ?_, ?_, ?_, ?_, ?_, ?_, ?_, ?_, ?_, ?_, ?_, ?_, ?_, ?_, ?_, ?_, ?_, ?_, ?_, trivial⟩
      all_goals
        intro u0 u1 u2 u3 u4 u5 u6 u7 u8 u9 u10 u11 u12 u13 u14 u15 u16 u17 u18 u19 u20 u21 u22 u23 u24 u25 u26 u27 u28 w1 he hk
        simp [KnownD, Oper.looksAt, Op.operands, Call.operands, List.findIdx?_cons, Act.put] at hk
        simp only [Act.put, List.setIfInBounds_toArray, List.set_cons_succ, List.set_cons_zero]
      · have hb := he.block Q0.out
        have q0 := blk_cell hb 0
        have q1 := blk_cell hb 1
        simp at q0 q1
        clear hb
        go_wp2_with fail
        exact ⟨rfl, Ext.refl _, HZ0.out.ext (HE7.out.trans he)⟩
      · have hb := he.block Q1.out
        have q0 := blk_cell hb 0
        have q1 := blk_cell hb 1
        simp at q0 q1
        clear hb
        go_wp2_with fail
        exact ⟨rfl, Ext.refl _, HZ1.out.ext (HE7.out.trans he)⟩
      · obtain ⟨k0, k1⟩ := hk
        have H0 := Lib.hid k0
        have H1 := Lib.hid k1
        clear k0 k1
        go_wp2_with fail
        refine (add_z (17592186043904) (za) (zb) _ _ _ ((H0.out).mono (by omega)) ((H1.out).mono (by omega)) (by omega)).mono ?_
        rintro e w2 ⟨he2, x, rfl, hx⟩
        have HX := Lib.hid hx
        clear hx
        go_wp2_with fail
        exact ⟨rfl, he2, HX.out⟩
      · have k0 := hk
        have H0 : Hid (IsC (17592186043905) ((za) + (zb)) u2 w1) := Lib.hid (by first | exact k0 | simpa using k0)
        clear k0
        go_wp2_with fail
        refine (bitLen_z (17592186043905) ((za) + (zb)) _ _ (H0.out.z) (by omega)).mono ?_
        rintro e w2 ⟨he2, x, rfl, hx⟩
        obtain rfl : x = .int .i64 (blen ((za) + (zb)) : Nat) := hx
        go_wp2_with fail
        exact ⟨rfl, he2, rfl⟩
      · go_wp2_with fail
        exact ⟨rfl, Ext.refl _, by show (_ : Value) = _; (first | rfl | simp); try rfl⟩
      · have k0 := hk
        obtain rfl : u4 = .int .i64 ((max (blen za) (blen zb) : Nat) : Int) := k0
        go_wp2_with fail
        exact ⟨rfl, Ext.refl _, by show (_ : Value) = _; (first | rfl | simp); try rfl⟩
      · obtain ⟨k0, k1⟩ := hk
        obtain rfl : u3 = .int .i64 (blen ((za) + (zb)) : Nat) := k0
        obtain rfl : u5 = .int .i64 (((max (blen za) (blen zb) : Nat) : Int) + 1) := k1
        go_wp2_with fail
        exact ⟨rfl, Ext.refl _, by show (_ : Value) = _; (have := blen_sum za zb; simp; omega); try rfl⟩
      · have k0 := hk
        obtain rfl : u6 = .bool true := k0
        go_wp2_with fail
        exact ⟨rfl, Ext.refl _, by show (_ : Value) = _; (first | rfl | simp); try rfl⟩
      · have k0 := hk
        obtain rfl : u7 = .bool true := k0
        have hb := he.block Q0.out
        have q0 := blk_cell hb 0
        have q1 := blk_cell hb 1
        simp at q0 q1
        clear hb
        go_wp2_with fail
        exact ⟨rfl, Ext.refl _, HZ0.out.ext (HE7.out.trans he)⟩
      · have k0 := hk
        obtain rfl : u7 = .bool true := k0
        have hb := he.block Q1.out
        have q0 := blk_cell hb 0
        have q1 := blk_cell hb 1
        simp at q0 q1
        clear hb
        go_wp2_with fail
        exact ⟨rfl, Ext.refl _, HZ1.out.ext (HE7.out.trans he)⟩
      · obtain ⟨k0, k1, k2⟩ := hk
        obtain rfl : u7 = .bool true := k2
        have H0 := Lib.hid k0
        have H1 := Lib.hid k1
        clear k0 k1
        go_wp2_with fail
        refine (cmpAbs_z (17592186043904) (17592186043904) (za) (zb) _ _ _ (H0.out) (H1.out) (by omega) (by omega)).mono ?_
        rintro e w2 ⟨he2, x, rfl, hx⟩
        obtain rfl : x = .int .i64 (cmpZ ((za).natAbs : Int) ((zb).natAbs : Int)) := hx
        go_wp2_with fail
        exact ⟨rfl, he2, rfl⟩
      · obtain ⟨k0, k1⟩ := hk
        obtain rfl : u10 = .int .i64 (cmpZ ((za).natAbs : Int) ((zb).natAbs : Int)) := k0
        obtain rfl : u7 = .bool true := k1
        go_wp2_with fail
        exact ⟨rfl, Ext.refl _, by show (_ : Value) = _; (have := HC.out; rw [cmpAbs_gt]; simp; omega); try rfl⟩
      · obtain ⟨k0, k1⟩ := hk
        obtain rfl : u11 = .bool false := k0
        obtain rfl : u7 = .bool true := k1
        go_wp2_with fail
        exact ⟨rfl, Ext.refl _, by show (_ : Value) = _; (first | rfl | simp); try rfl⟩
      · have k0 := hk
        obtain rfl : u12 = .bool false := k0
        have hb := he.block Q0.out
        have q0 := blk_cell hb 0
        have q1 := blk_cell hb 1
        simp at q0 q1
        clear hb
        go_wp2_with fail
        exact ⟨rfl, Ext.refl _, HZ0.out.ext (HE7.out.trans he)⟩
      · obtain ⟨k0, k1⟩ := hk
        obtain rfl : u12 = .bool false := k1
        have H0 := Lib.hid k0
        clear k0
        go_wp2_with fail
        refine (bitLen_z (17592186043904) (za) _ _ (H0.out) (by omega)).mono ?_
        rintro e w2 ⟨he2, x, rfl, hx⟩
        obtain rfl : x = .int .i64 (blen (za) : Nat) := hx
        go_wp2_with fail
        exact ⟨rfl, he2, rfl⟩
      · have k0 := hk
        obtain rfl : u12 = .bool false := k0
        have hb := he.block Q1.out
        have q0 := blk_cell hb 0
        have q1 := blk_cell hb 1
        simp at q0 q1
        clear hb
        go_wp2_with fail
        exact ⟨rfl, Ext.refl _, HZ1.out.ext (HE7.out.trans he)⟩
      · obtain ⟨k0, k1⟩ := hk
        obtain rfl : u12 = .bool false := k1
        have H0 := Lib.hid k0
        clear k0
        go_wp2_with fail
        refine (bitLen_z (17592186043904) (zb) _ _ (H0.out) (by omega)).mono ?_
        rintro e w2 ⟨he2, x, rfl, hx⟩
        obtain rfl : x = .int .i64 (blen (zb) : Nat) := hx
        go_wp2_with fail
        exact ⟨rfl, he2, rfl⟩
      · obtain ⟨k0, k1, k2⟩ := hk
        obtain rfl : u14 = .int .i64 (blen (za) : Nat) := k0
        obtain rfl : u16 = .int .i64 (blen (zb) : Nat) := k1
        obtain rfl : u12 = .bool false := k2
        go_wp2_with fail
        exact ⟨rfl, Ext.refl _, by show (_ : Value) = _; (have := blen_mono HC.out; simp; omega); try rfl⟩
      · obtain ⟨k0, k1, k2⟩ := hk
        obtain rfl : u12 = .bool false := k0
        obtain rfl : u17 = .bool true := k1
        obtain rfl : u7 = .bool true := k2
        go_wp2_with fail
        exact ⟨rfl, Ext.refl _, by show (_ : Value) = _; (first | rfl | simp); try rfl⟩
      · obtain ⟨k0, k1⟩ := hk
        obtain rfl : u7 = .bool true := k0
        obtain rfl : u18 = .bool true := k1
        go_wp2_with fail
        exact ⟨rfl, Ext.refl _, by show (_ : Value) = _; (first | rfl | simp); try rfl⟩
      · have k0 := hk
        obtain rfl : u19 = .bool true := k0
        go_wp2_with fail
        exact ⟨rfl, Ext.refl _, by show (_ : Value) = _; (first | rfl | simp); try rfl⟩
      · have k0 := hk
        obtain rfl : u20 = .bool true := k0
        have hb := he.block Q0.out
        have q0 := blk_cell hb 0
        have q1 := blk_cell hb 1
        simp at q0 q1
        clear hb
        go_wp2_with fail
        exact ⟨rfl, Ext.refl _, HZ0.out.ext (HE7.out.trans he)⟩
      · obtain ⟨k0, k1⟩ := hk
        obtain rfl : u20 = .bool true := k1
        have H0 := Lib.hid k0
        clear k0
        go_wp2_with fail
        refine (bitLen_z (17592186043904) (za) _ _ (H0.out) (by omega)).mono ?_
        rintro e w2 ⟨he2, x, rfl, hx⟩
        obtain rfl : x = .int .i64 (blen (za) : Nat) := hx
        go_wp2_with fail
        exact ⟨rfl, he2, rfl⟩
      · obtain ⟨k0, k1⟩ := hk
        obtain rfl : u22 = .int .i64 (blen (za) : Nat) := k0
        obtain rfl : u20 = .bool true := k1
        go_wp2_with fail
        exact ⟨rfl, Ext.refl _, by show (_ : Value) = _; (exact blen_eqz za); try rfl⟩
      · have k0 := hk
        obtain rfl : u20 = .bool true := k0
        have hb := he.block Q0.out
        have q0 := blk_cell hb 0
        have q1 := blk_cell hb 1
        simp at q0 q1
        clear hb
        go_wp2_with fail
        exact ⟨rfl, Ext.refl _, HZ0.out.ext (HE7.out.trans he)⟩
      · obtain ⟨k0, k1⟩ := hk
        obtain rfl : u20 = .bool true := k1
        have H0 := Lib.hid k0
        clear k0
        go_wp2_with fail
        refine (zero_z (17592186043904) (za) _ _ (H0.out) (by omega)).mono ?_
        rintro e w2 ⟨he2, x, rfl, hx⟩
        obtain rfl : x = .bool (decide (za = 0)) := hx
        go_wp2_with fail
        exact ⟨rfl, he2, rfl⟩
      · obtain ⟨k0, k1, k2⟩ := hk
        obtain rfl : u23 = .bool (decide (za = 0)) := k0
        obtain rfl : u25 = .bool (decide (za = 0)) := k1
        obtain rfl : u20 = .bool true := k2
        go_wp2_with fail
        exact ⟨rfl, Ext.refl _, by show (_ : Value) = _; (simp); try rfl⟩
      · obtain ⟨k0, k1⟩ := hk
        obtain rfl : u20 = .bool true := k0
        obtain rfl : u26 = .bool true := k1
        go_wp2_with fail
        exact ⟨rfl, Ext.refl _, by show (_ : Value) = _; (first | rfl | simp); try rfl⟩
    case last =>
      intro w1 he u0 h0 u1 h1 u2 h2 u3 h3 u4 h4 u5 h5 u6 h6 u7 h7 u8 h8 u9 h9 u10 h10 u11 h11 u12 h12 u13 h13 u14 h14 u15 h15 u16 h16 u17 h17 u18 h18 u19 h19 u20 h20 u21 h21 u22 h22 u23 h23 u24 h24 u25 h25 u26 h26 u27 h27
      obtain rfl : u27 = .bool true := h27
      clear h0 h1 h2 h3 h4 h5 h6 h7 h8 h9 h10 h11 h12 h13 h14 h15 h16 h17 h18 h19 h20 h21 h22 h23 h24 h25 h26
      simp only [LastD, Act.put, List.setIfInBounds_toArray, List.set_cons_succ, List.set_cons_zero]
      have HE := Lib.hid ((HE7.out).trans he)
      clear he
      go_wp2_with fail
      go_ret
      exact ⟨HE.out, rfl⟩



set_option maxRecDepth 10000 in
set_option maxHeartbeats 2000000 in
theorem fnBitLenSum_y  (n0 : Bool) (v0 : Value) (ws0 : List Nat) (n1 : Bool) (v1 : Value) (ws1 : List Nat) (w : World) (hr0 : Rd .u64 w v0 ws0) (hl0 : ws0.length ≤ 17592186043904) (hr1 : Rd .u64 w v1 ws1) (hl1 : ws1.length ≤ 17592186043904) (hc : (ival n1 ws1).natAbs < (ival n0 ws0).natAbs) :
    Calls Try.prog 7 #[.agg #[.bool n0, v0], .agg #[.bool n1, v1]] w (ValR (.bool true) w) := by
  obtain ⟨a0, c0, rfl⟩ := hr0.form
  have hz0 : IsZ 17592186043904 (ival n0 ws0) (.agg #[.bool n0, .slice a0 ws0.length c0]) w := ⟨n0, _, ws0, rfl, hr0, hl0, rfl⟩
  generalize hg0 : ival n0 ws0 = za at hz0
  have HZ0 := Lib.hid hz0
  have HG0 := Lib.hid hg0
  clear hz0 hg0 hr0
  obtain ⟨a1, c1, rfl⟩ := hr1.form
  have hz1 : IsZ 17592186043904 (ival n1 ws1) (.agg #[.bool n1, .slice a1 ws1.length c1]) w := ⟨n1, _, ws1, rfl, hr1, hl1, rfl⟩
  generalize hg1 : ival n1 ws1 = zb at hz1
  have HZ1 := Lib.hid hz1
  have HG1 := Lib.hid hg1
  clear hz1 hg1 hr1
  have HC := Lib.hid (show zb.natAbs < za.natAbs by rw [← HG0.out, ← HG1.out]; exact hc)
  have hbx : blen za ≤ 64 * 17592186043904 := HZ0.out.blen_le
  have hby : blen zb ≤ 64 * 17592186043904 := HZ1.out.blen_le
  clear hc
  go_enter Try.func7, Try.ntmps7
  go_wp2_with fail
  have g0 := (Ext.alloc (w.alloc (.cells #[.bool n0, .slice a0 ws0.length c0] 24)) (.cells #[.bool n1, .slice a1 ws1.length c1] 24)).block (heap_alloc_new w (.cells #[.bool n0, .slice a0 ws0.length c0] 24))
  have g1 := heap_second w (.cells #[.bool n0, .slice a0 ws0.length c0] 24) (.cells #[.bool n1, .slice a1 ws1.length c1] 24)
  have hE0 : Ext w ((w.alloc (.cells #[.bool n0, .slice a0 ws0.length c0] 24)).alloc (.cells #[.bool n1, .slice a1 ws1.length c1] 24)) := (Ext.alloc _ _).trans (Ext.alloc _ _)
  have hsz3 : ((w.alloc (.cells #[.bool n0, .slice a0 ws0.length c0] 24)).alloc (.cells #[.bool n1, .slice a1 ws1.length c1] 24)).heap.size = w.heap.size + 1 + 1 := by simp
  generalize ((w.alloc (.cells #[.bool n0, .slice a0 ws0.length c0] 24)).alloc (.cells #[.bool n1, .slice a1 ws1.length c1] 24)) = w4 at *
  generalize hn0 : w4.heap.size = N0 at *
  have HE0 := Lib.hid hE0
  have G0 := Lib.hid g0
  have G1 := Lib.hid g1
  have HSZ := Lib.hid hsz3
  clear g0 g1 hE0 hsz3
  refine wp_region_D preExt mixed [IsZ (17592186043904) (za), Is (.int .i64 (blen (za) : Nat)), IsZ (17592186043904) (zb), Is (.int .i64 (blen (zb) : Nat)), Is (.int .i64 ((max (blen za) (blen zb) : Nat) : Int))] (by kernel_rfl) ?mono rfl ?steps ?last
  case mono =>
    simp only [List.forall_mem_cons, List.not_mem_nil, false_implies, implies_true, and_true]
    refine ⟨?_, ?_, ?_, ?_, ?_⟩
    all_goals first | exact fun _ _ _ _ q => q | exact fun _ _ _ he q => q.ext he
  case steps =>
    refine ⟨?_, ?_, ?_, ?_, ?_, trivial⟩
    all_goals
      intro u0 u1 u2 u3 u4 u5 w1 he hk
      simp [KnownD, Oper.looksAt, Op.operands, Call.operands, List.findIdx?_cons, Act.put] at hk
      simp only [Act.put, List.setIfInBounds_toArray, List.set_cons_succ, List.set_cons_zero]
    · have hb := he.block G0.out
      have q0 := blk_cell hb 0
      have q1 := blk_cell hb 1
      simp at q0 q1
      clear hb
      go_wp2_with fail
      exact ⟨rfl, Ext.refl _, HZ0.out.ext (HE0.out.trans he)⟩
    · have k0 := hk
      have H0 := Lib.hid k0
      clear k0
      go_wp2_with fail
      refine (bitLen_z (17592186043904) (za) _ _ (H0.out) (by omega)).mono ?_
      rintro e w2 ⟨he2, x, rfl, hx⟩
      obtain rfl : x = .int .i64 (blen (za) : Nat) := hx
      go_wp2_with fail
      exact ⟨rfl, he2, rfl⟩
    · have hb := he.block G1.out
      have q0 := blk_cell hb 0
      have q1 := blk_cell hb 1
      simp at q0 q1
      clear hb
      go_wp2_with fail
      exact ⟨rfl, Ext.refl _, HZ1.out.ext (HE0.out.trans he)⟩
    · have k0 := hk
      have H0 := Lib.hid k0
      clear k0
      go_wp2_with fail
      refine (bitLen_z (17592186043904) (zb) _ _ (H0.out) (by omega)).mono ?_
      rintro e w2 ⟨he2, x, rfl, hx⟩
      obtain rfl : x = .int .i64 (blen (zb) : Nat) := hx
      go_wp2_with fail
      exact ⟨rfl, he2, rfl⟩
    · obtain ⟨k0, k1⟩ := hk
      obtain rfl : u1 = .int .i64 (blen (za) : Nat) := k0
      obtain rfl : u3 = .int .i64 (blen (zb) : Nat) := k1
      go_wp2_with fail
      exact ⟨rfl, Ext.refl _, by show (_ : Value) = _; (first | rfl | (rw [maxB]; rfl)); try rfl⟩
  case last =>
    rename_i K aK
    have AK := Lib.hid aK
    clear aK
    intro w5 he u0 h0 u1 h1 u2 h2 u3 h3 u4 h4
    obtain rfl : u4 = .int .i64 ((max (blen za) (blen zb) : Nat) : Int) := h4
    clear h0 h1 h2 h3
    simp only [LastD, Act.put, List.setIfInBounds_toArray, List.set_cons_succ, List.set_cons_zero]
    have HE7 := Lib.hid (HE0.out.trans he)
    have Q0 := Lib.hid (he.block G0.out)
    have Q1 := Lib.hid (he.block G1.out)
    clear he
    go_wp2_with fail
    refine AK.out _ _ ?_
    clear AK
    go_wp2_with fail

    refine wp_region_D preExt mixed [IsZ (17592186043904) (za), IsZ (17592186043904) (zb), IsC (17592186043905) ((za) + (zb)), Is (.int .i64 (blen ((za) + (zb)) : Nat)), Is (.int .i64 ((max (blen za) (blen zb) : Nat) : Int)), Is (.int .i64 (((max (blen za) (blen zb) : Nat) : Int) + 1)), Is (.bool true), Is (.bool true), IsZ (17592186043904) (za), IsZ (17592186043904) (zb), Is (.int .i64 (cmpZ ((za).natAbs : Int) ((zb).natAbs : Int))), Is (.bool true), Is (.bool true), Is undef, Is undef, Is undef, Is undef, Is undef, Is (.bool true), Is (.bool true), Is (.bool true), IsZ (17592186043904) (za), Is (.int .i64 (blen (za) : Nat)), Is (.bool (decide (za = 0))), IsZ (17592186043904) (za), Is (.bool (decide (za = 0))), Is (.bool true), Is (.bool true)] (by kernel_rfl) ?mono rfl ?steps ?last
    case mono =>
      simp only [List.forall_mem_cons, List.not_mem_nil, false_implies, implies_true, and_true]
      refine ⟨?_, ?_, ?_, ?_, ?_, ?_, ?_, ?_, ?_, ?_, ?_, ?_, ?_, ?_, ?_, ?_, ?_, ?_, ?_, ?_, ?_, ?_, ?_, ?_, ?_, ?_, ?_, ?_⟩
      all_goals first | exact fun _ _ _ _ q => q | exact fun _ _ _ he q => q.ext he
    case steps =>
      refine ⟨?_, ?_, ?_, ?_, ?_, ?_, ?_, ?_, ?_, ?_, ?_, ?_, ?_, ?_, ?_, ?_, ?_, ?_, ?_, ?_, ?_, ?_, ?_, ?_, ?_, ?_, ?_, ?_, trivial⟩
      all_goals
        intro u0 u1 u2 u3 u4 u5 u6 u7 u8 u9 u10 u11 u12 u13 u14 u15 u16 u17 u18 u19 u20 u21 u22 u23 u24 u25 u26 u27 u28 w1 he hk
        simp [KnownD, Oper.looksAt, Op.operands, Call.operands, List.findIdx?_cons, Act.put] at hk
        simp only [Act.put, List.setIfInBounds_toArray, List.set_cons_succ, List.set_cons_zero]
      · have hb := he.block Q0.out
        have q0 := blk_cell hb 0
        have q1 := blk_cell hb 1
        simp at q0 q1
        clear hb
        go_wp2_with fail
        exact ⟨rfl, Ext.refl _, HZ0.out.ext (HE7.out.trans he)⟩
      · have hb := he.block Q1.out
        have q0 := blk_cell hb 0
        have q1 := blk_cell hb 1
        simp at q0 q1
        clear hb
        go_wp2_with fail
        exact ⟨rfl, Ext.refl _, HZ1.out.ext (HE7.out.trans he)⟩
      · obtain ⟨k0, k1⟩ := hk
        have H0 := Lib.hid k0
        have H1 := Lib.hid k1
        clear k0 k1
        go_wp2_with fail
        refine (add_z (17592186043904) (za) (zb) _ _ _ ((H0.out).mono (by omega)) ((H1.out).mono (by omega)) (by omega)).mono ?_
        rintro e w2 ⟨he2, x, rfl, hx⟩
        have HX := Lib.hid hx
        clear hx
        go_wp2_with fail
        exact ⟨rfl, he2, HX.out⟩
      · have k0 := hk
        have H0 : Hid (IsC (17592186043905) ((za) + (zb)) u2 w1) := Lib.hid (by first | exact k0 | simpa using k0)
        clear k0
        go_wp2_with fail
        refine (bitLen_z (17592186043905) ((za) + (zb)) _ _ (H0.out.z) (by omega)).mono ?_
        rintro e w2 ⟨he2, x, rfl, hx⟩
        obtain rfl : x = .int .i64 (blen ((za) + (zb)) : Nat) := hx
        go_wp2_with fail
        exact ⟨rfl, he2, rfl⟩
      · go_wp2_with fail
        exact ⟨rfl, Ext.refl _, by show (_ : Value) = _; (first | rfl | simp); try rfl⟩
      · have k0 := hk
        obtain rfl : u4 = .int .i64 ((max (blen za) (blen zb) : Nat) : Int) := k0
        go_wp2_with fail
        exact ⟨rfl, Ext.refl _, by show (_ : Value) = _; (first | rfl | simp); try rfl⟩
      · obtain ⟨k0, k1⟩ := hk
        obtain rfl : u3 = .int .i64 (blen ((za) + (zb)) : Nat) := k0
        obtain rfl : u5 = .int .i64 (((max (blen za) (blen zb) : Nat) : Int) + 1) := k1
        go_wp2_with fail
        exact ⟨rfl, Ext.refl _, by show (_ : Value) = _; (have := blen_sum za zb; simp; omega); try rfl⟩
      · have k0 := hk
        obtain rfl : u6 = .bool true := k0
        go_wp2_with fail
        exact ⟨rfl, Ext.refl _, by show (_ : Value) = _; (first | rfl | simp); try rfl⟩
      · have k0 := hk
        obtain rfl : u7 = .bool true := k0
        have hb := he.block Q0.out
        have q0 := blk_cell hb 0
        have q1 := blk_cell hb 1
        simp at q0 q1
        clear hb
        go_wp2_with fail
        exact ⟨rfl, Ext.refl _, HZ0.out.ext (HE7.out.trans he)⟩
      · have k0 := hk
        obtain rfl : u7 = .bool true := k0
        have hb := he.block Q1.out
        have q0 := blk_cell hb 0
        have q1 := blk_cell hb 1
        simp at q0 q1
        clear hb
        go_wp2_with fail
        exact ⟨rfl, Ext.refl _, HZ1.out.ext (HE7.out.trans he)⟩
      · obtain ⟨k0, k1, k2⟩ := hk
        obtain rfl : u7 = .bool true := k2
        have H0 := Lib.hid k0
        have H1 := Lib.hid k1
        clear k0 k1
        go_wp2_with fail
        refine (cmpAbs_z (17592186043904) (17592186043904) (za) (zb) _ _ _ (H0.out) (H1.out) (by omega) (by omega)).mono ?_
        rintro e w2 ⟨he2, x, rfl, hx⟩
        obtain rfl : x = .int .i64 (cmpZ ((za).natAbs : Int) ((zb).natAbs : Int)) := hx
        go_wp2_with fail
        exact ⟨rfl, he2, rfl⟩
      · obtain ⟨k0, k1⟩ := hk
        obtain rfl : u10 = .int .i64 (cmpZ ((za).natAbs : Int) ((zb).natAbs : Int)) := k0
        obtain rfl : u7 = .bool true := k1
        go_wp2_with fail
        exact ⟨rfl, Ext.refl _, by show (_ : Value) = _; (have := HC.out; rw [cmpAbs_gt]; simp; omega); try rfl⟩
      · obtain ⟨k0, k1⟩ := hk
        obtain rfl : u11 = .bool true := k0
        obtain rfl : u7 = .bool true := k1
        go_wp2_with fail
        exact ⟨rfl, Ext.refl _, by show (_ : Value) = _; (first | rfl | simp); try rfl⟩
      · have k0 := hk
        obtain rfl : u12 = .bool true := k0
        go_wp2_with fail
        exact ⟨rfl, Ext.refl _, rfl⟩
      · obtain ⟨k0, k1⟩ := hk
        obtain rfl : u13 = undef := k0
        obtain rfl : u12 = .bool true := k1
        go_wp2_with fail
        exact ⟨rfl, Ext.refl _, rfl⟩
      · have k0 := hk
        obtain rfl : u12 = .bool true := k0
        go_wp2_with fail
        exact ⟨rfl, Ext.refl _, rfl⟩
      · obtain ⟨k0, k1⟩ := hk
        obtain rfl : u15 = undef := k0
        obtain rfl : u12 = .bool true := k1
        go_wp2_with fail
        exact ⟨rfl, Ext.refl _, rfl⟩
      · obtain ⟨k0, k1, k2⟩ := hk
        obtain rfl : u14 = undef := k0
        obtain rfl : u16 = undef := k1
        obtain rfl : u12 = .bool true := k2
        go_wp2_with fail
        exact ⟨rfl, Ext.refl _, rfl⟩
      · obtain ⟨k0, k1, k2⟩ := hk
        obtain rfl : u12 = .bool true := k0
        obtain rfl : u17 = undef := k1
        obtain rfl : u7 = .bool true := k2
        go_wp2_with fail
        exact ⟨rfl, Ext.refl _, by show (_ : Value) = _; (first | rfl | simp); try rfl⟩
      · obtain ⟨k0, k1⟩ := hk
        obtain rfl : u7 = .bool true := k0
        obtain rfl : u18 = .bool true := k1
        go_wp2_with fail
        exact ⟨rfl, Ext.refl _, by show (_ : Value) = _; (first | rfl | simp); try rfl⟩
      · have k0 := hk
        obtain rfl : u19 = .bool true := k0
        go_wp2_with fail
        exact ⟨rfl, Ext.refl _, by show (_ : Value) = _; (first | rfl | simp); try rfl⟩
      · have k0 := hk
        obtain rfl : u20 = .bool true := k0
        have hb := he.block Q0.out
        have q0 := blk_cell hb 0
        have q1 := blk_cell hb 1
        simp at q0 q1
        clear hb
        go_wp2_with fail
        exact ⟨rfl, Ext.refl _, HZ0.out.ext (HE7.out.trans he)⟩
      · obtain ⟨k0, k1⟩ := hk
        obtain rfl : u20 = .bool true := k1
        have H0 := Lib.hid k0
        clear k0
        go_wp2_with fail
        refine (bitLen_z (17592186043904) (za) _ _ (H0.out) (by omega)).mono ?_
        rintro e w2 ⟨he2, x, rfl, hx⟩
        obtain rfl : x = .int .i64 (blen (za) : Nat) := hx
        go_wp2_with fail
        exact ⟨rfl, he2, rfl⟩
      · obtain ⟨k0, k1⟩ := hk
        obtain rfl : u22 = .int .i64 (blen (za) : Nat) := k0
        obtain rfl : u20 = .bool true := k1
        go_wp2_with fail
        exact ⟨rfl, Ext.refl _, by show (_ : Value) = _; (exact blen_eqz za); try rfl⟩
      · have k0 := hk
        obtain rfl : u20 = .bool true := k0
        have hb := he.block Q0.out
        have q0 := blk_cell hb 0
        have q1 := blk_cell hb 1
        simp at q0 q1
        clear hb
        go_wp2_with fail
        exact ⟨rfl, Ext.refl _, HZ0.out.ext (HE7.out.trans he)⟩
      · obtain ⟨k0, k1⟩ := hk
        obtain rfl : u20 = .bool true := k1
        have H0 := Lib.hid k0
        clear k0
        go_wp2_with fail
        refine (zero_z (17592186043904) (za) _ _ (H0.out) (by omega)).mono ?_
        rintro e w2 ⟨he2, x, rfl, hx⟩
        obtain rfl : x = .bool (decide (za = 0)) := hx
        go_wp2_with fail
        exact ⟨rfl, he2, rfl⟩
      · obtain ⟨k0, k1, k2⟩ := hk
        obtain rfl : u23 = .bool (decide (za = 0)) := k0
        obtain rfl : u25 = .bool (decide (za = 0)) := k1
        obtain rfl : u20 = .bool true := k2
        go_wp2_with fail
        exact ⟨rfl, Ext.refl _, by show (_ : Value) = _; (simp); try rfl⟩
      · obtain ⟨k0, k1⟩ := hk
        obtain rfl : u20 = .bool true := k0
        obtain rfl : u26 = .bool true := k1
        go_wp2_with fail
        exact ⟨rfl, Ext.refl _, by show (_ : Value) = _; (first | rfl | simp); try rfl⟩
    case last =>
      intro w1 he u0 h0 u1 h1 u2 h2 u3 h3 u4 h4 u5 h5 u6 h6 u7 h7 u8 h8 u9 h9 u10 h10 u11 h11 u12 h12 u13 h13 u14 h14 u15 h15 u16 h16 u17 h17 u18 h18 u19 h19 u20 h20 u21 h21 u22 h22 u23 h23 u24 h24 u25 h25 u26 h26 u27 h27
      obtain rfl : u27 = .bool true := h27
      clear h0 h1 h2 h3 h4 h5 h6 h7 h8 h9 h10 h11 h12 h13 h14 h15 h16 h17 h18 h19 h20 h21 h22 h23 h24 h25 h26
      simp only [LastD, Act.put, List.setIfInBounds_toArray, List.set_cons_succ, List.set_cons_zero]
      have HE := Lib.hid ((HE7.out).trans he)
      clear he
      go_wp2_with fail
      go_ret
      exact ⟨HE.out, rfl⟩



theorem fnBitLenSum_walk (n0 : Bool) (v0 : Value) (ws0 : List Nat) (n1 : Bool) (v1 : Value) (ws1 : List Nat) (w : World) (hr0 : Rd .u64 w v0 ws0) (hl0 : ws0.length ≤ 17592186043904) (hr1 : Rd .u64 w v1 ws1) (hl1 : ws1.length ≤ 17592186043904) :
    Calls Try.prog 7 #[.agg #[.bool n0, v0], .agg #[.bool n1, v1]] w (ValR (.bool true) w) := by
  by_cases h : (ival n0 ws0).natAbs ≤ (ival n1 ws1).natAbs
  · exact fnBitLenSum_n n0 v0 ws0 n1 v1 ws1 w hr0 hl0 hr1 hl1 h
  · exact fnBitLenSum_y n0 v0 ws0 n1 v1 ws1 w hr0 hl0 hr1 hl1 (by omega)

end Go.Proofs.Ytdfknmplpjmemaa

