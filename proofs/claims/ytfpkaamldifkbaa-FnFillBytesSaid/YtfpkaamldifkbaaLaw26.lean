/- FnFillBytes (printed by lawgen.py). -/
import Derived.Test.YtfpkaamldifkbaaBytes11
import Derived.Test.YtfpkaamldifkbaaStrN
import Derived.Test.YtfpkaamldifkbaaCmp3
import Derived.Test.YtfpkaamldifkbaaHelpers
set_option linter.unusedSimpArgs false
set_option linter.unusedVariables false
namespace Go.Proofs.Ytfpkaamldifkbaa
open Go.RowKit

theorem setBytes_f (L n : Nat) (z : Int) (x : Value) (w : World) (h : IsR8 (beb n z.natAbs) x w) (hf : z.natAbs < 256 ^ n) (hn : n ≤ 140737488355328) (hL : n ≤ 8 * L) :
    Calls Try.prog 18 #[x] w (ResR (IsC L (z.natAbs : Int)) w) := by
  refine (setBytes_z x _ w h (by rw [beb_len]; omega)).mono ?_
  rintro e w' ⟨he, y, rfl, hy⟩
  rw [bev_beb_fit hf, beb_len] at hy
  exact ⟨he, y, rfl, hy.mono (by omega)⟩

theorem bv_zeroF (a : List Nat) : bv a = 0 ↔ a.all (· == 0) = true := by
  induction a with
  | nil => simp [bv]
  | cons x a ih =>
    rw [bv, List.all_cons, Bool.and_eq_true, ← ih]
    simp
    omega

theorem bev_zeroF (a : List Nat) : bev a = 0 ↔ a.all (· == 0) = true := by
  unfold bev
  rw [bv_zeroF, List.all_reverse]

theorem some_bit {n : Nat} {z : Int} (hf : z.natAbs < 256 ^ n) (hz : z ≠ 0) : (beb n z.natAbs).all (· == 0) = false := by
  cases h : (beb n z.natAbs).all (· == 0)
  · rfl
  · have := (bev_zeroF _).2 h
    rw [bev_beb_fit hf] at this
    omega

theorem made_rd (w : World) (n : Nat) (hn : n ≤ 9223372036854775807) : IsR8 (List.replicate n 0) (.slice (some ⟨w.heap.size, 0, none⟩) n n) (w.alloc (.cells (madeCells #[Value.int .u8 0] n) 5)) :=
  ownsRow.read (made_bytes0 w n hn) (fun x hx => by rw [List.eq_of_mem_replicate hx]; decide)

theorem implFillBytes_b (L : Nat) (z : Int) (x v : Value) (n : Nat) (w : World) (h : IsZ L z x w) (hL : L ≤ 17592186044416) (hr : IsR8 (List.replicate n 0) v w) (hl : n ≤ 140737488355328) :
    Calls Try.prog 15 #[x, v] w (ResR (IsFb n z.natAbs) w) := by
  have := implFillBytes_z L z x v _ w h hL hr (by simpa using hl)
  rwa [List.length_replicate] at this

set_option maxRecDepth 10000 in
set_option maxHeartbeats 4000000 in
theorem fnFillBytes_no (n0 : Bool) (v0 : Value) (ws0 : List Nat) (v1 : Value) (bs : List Nat) (w : World) (hr0 : Rd .u64 w v0 ws0) (hl0 : ws0.length ≤ 17592186043904) (hr1 : Rd .u8 w v1 bs) (hl1 : bs.length ≤ 140737488351232) (hf : ¬ (ival n0 ws0).natAbs < 256 ^ bs.length) :
    Calls Try.prog 7 #[.agg #[.bool n0, v0], v1] w (ValR (.bool true) w) := by
  obtain ⟨a0, c0, rfl⟩ := hr0.form
  obtain ⟨a1, c1, rfl⟩ := hr1.form
  have hz0 : IsZ 17592186043904 (ival n0 ws0) (.agg #[.bool n0, .slice a0 ws0.length c0]) w := ⟨n0, _, ws0, rfl, hr0, hl0, rfl⟩
  have hbl0 : blen (ival n0 ws0) ≤ 64 * ws0.length := by rw [blen, blenN_le_iff, ival_abs, ← pow64]; exact val_lt ws0 hr0.1
  generalize ival n0 ws0 = z at *
  have hfi : (z.natAbs < 256 ^ bs.length) = ((blen z + 7) / 8 ≤ bs.length) := propext (fit_iff bs.length z.natAbs)
  have HFI := Lib.hid hfi
  have HZ := Lib.hid hz0
  have HR := Lib.hid hr1
  have HF := Lib.hid hf
  have hbl : blen z ≤ 1125899906842624 := by omega

  clear hr0 hr1 hz0 hfi hf hbl0
  go_enter Try.func7, Try.ntmps7
  go_wp2_with fail
  refine (toImpl_z 17592186043904 z _ _ (HZ.out.ext (Ext.alloc _ _)) (by omega)).mono ?_
  rintro e w1 ⟨he, y1, rfl, hy⟩
  obtain ⟨m1, b1, l1, d1, rfl⟩ := hy.form
  have HE := Lib.hid ((Ext.alloc _ _).trans he)
  have G := Lib.hid (he.block (heap_alloc_new w (.cells #[.bool n0, .slice a0 ws0.length c0] 24)))
  have HY1 := Lib.hid hy
  clear he hy
  go_wp2_with fail
  refine (implFillBytes_z 17592186043904 z _ _ bs _ HY1.out.z (by omega) (HR.out.ext HE.out) (by omega)).mono ?_
  rintro e w3 ⟨he, y3, rfl, s3, rfl, hs3⟩
  obtain ⟨a3, c3, rfl⟩ := hs3.form
  replace HE := Lib.hid (HE.out.trans he)
  replace G := Lib.hid (he.block G.out)
  have HS3 := Lib.hid hs3
  clear he hs3 HY1
  have d0 := blk_cell G.out 0
  have d1 := blk_cell G.out 1
  simp at d0 d1
  go_wp2_with fail
  refine (toSpec_z 17592186043904 z _ _ (HZ.out.ext HE.out) (by omega)).mono ?_
  rintro e w4 ⟨he, y4, rfl, hy⟩
  obtain ⟨m4, b4, l4, d4, rfl⟩ := hy.form
  replace HE := Lib.hid (HE.out.trans he)
  replace HS3 := Lib.hid (HS3.out.ext he)
  replace G := Lib.hid (he.block G.out)
  have HY4 := Lib.hid hy
  clear he hy d0 d1
  go_wp2_with fail
  refine (specBitLen_z 17592186043904 z _ _ HY4.out.z (by omega)).mono ?_
  rintro e w5 ⟨he, y5, rfl, hy⟩
  obtain rfl : y5 = .int .i64 (blen z : Nat) := hy
  replace HE := Lib.hid (HE.out.trans he)
  replace HS3 := Lib.hid (HS3.out.ext he)
  replace G := Lib.hid (he.block G.out)
  clear he HY4
  generalize blen z = bl at *
  have hd : decide (z.natAbs < 256 ^ bs.length) = false := by simpa using HF.out
  have hfl := fbl_not HF.out
  rw [hd, hfl]
  have hlt : bs.length < (bl + 7) / 8 := by
    have h1 := HF.out
    rw [HFI.out] at h1
    omega
  have hle : decide (((bl : Int) + 7) / 8 ≤ (bs.length : Int)) = false := by simp; omega
  have hbb : (false != false) = false := rfl
  clear hd hfl
  go_wp2_with fail
  go_ret
  exact ⟨HE.out, rfl⟩

set_option maxRecDepth 10000 in
set_option maxHeartbeats 4000000 in
theorem fnFillBytes_yes_z (n0 : Bool) (v0 : Value) (ws0 : List Nat) (v1 : Value) (bs : List Nat) (w : World) (hr0 : Rd .u64 w v0 ws0) (hl0 : ws0.length ≤ 17592186043904) (hr1 : Rd .u8 w v1 bs) (hl1 : bs.length ≤ 140737488351232) (hf : (ival n0 ws0).natAbs < 256 ^ bs.length) (hzc : ival n0 ws0 = 0) :
    Calls Try.prog 7 #[.agg #[.bool n0, v0], v1] w (ValR (.bool true) w) := by
  obtain ⟨a0, c0, rfl⟩ := hr0.form
  obtain ⟨a1, c1, rfl⟩ := hr1.form
  have hz0 : IsZ 17592186043904 (ival n0 ws0) (.agg #[.bool n0, .slice a0 ws0.length c0]) w := ⟨n0, _, ws0, rfl, hr0, hl0, rfl⟩
  have hbl0 : blen (ival n0 ws0) ≤ 64 * ws0.length := by rw [blen, blenN_le_iff, ival_abs, ← pow64]; exact val_lt ws0 hr0.1
  generalize ival n0 ws0 = z at *
  have hfi : (z.natAbs < 256 ^ bs.length) = ((blen z + 7) / 8 ≤ bs.length) := propext (fit_iff bs.length z.natAbs)
  have HFI := Lib.hid hfi
  have HZ := Lib.hid hz0
  have HR := Lib.hid hr1
  have HF := Lib.hid hf
  have hbl : blen z ≤ 1125899906842624 := by omega
  obtain ⟨i0, hi, hz0', hz1, hz2⟩ := info_parts infoByte
  have hmk := fun wx : World => run_make (P := Try.prog) wx 26 5 i0 _ Try.underlying26 hi hz0' .i64 .i64 (bs.length : Int) (bs.length : Int) (by omega) (by omega) (by rw [hz2]; omega) (by omega)
  rw [hz1, Int.toNat_natCast, Nat.mul_one] at hmk
  have HZC := Lib.hid hzc
  clear hi hz0' hz1 hz2 hzc
  clear hr0 hr1 hz0 hfi hf hbl0
  go_enter Try.func7, Try.ntmps7
  go_wp2_with fail
  refine (toImpl_z 17592186043904 z _ _ (HZ.out.ext (Ext.alloc _ _)) (by omega)).mono ?_
  rintro e w1 ⟨he, y1, rfl, hy⟩
  obtain ⟨m1, b1, l1, d1, rfl⟩ := hy.form
  have HE := Lib.hid ((Ext.alloc _ _).trans he)
  have G := Lib.hid (he.block (heap_alloc_new w (.cells #[.bool n0, .slice a0 ws0.length c0] 24)))
  have HY1 := Lib.hid hy
  clear he hy
  go_wp2_with fail
  refine (implFillBytes_z 17592186043904 z _ _ bs _ HY1.out.z (by omega) (HR.out.ext HE.out) (by omega)).mono ?_
  rintro e w3 ⟨he, y3, rfl, s3, rfl, hs3⟩
  obtain ⟨a3, c3, rfl⟩ := hs3.form
  replace HE := Lib.hid (HE.out.trans he)
  replace G := Lib.hid (he.block G.out)
  have HS3 := Lib.hid hs3
  clear he hs3 HY1
  have d0 := blk_cell G.out 0
  have d1 := blk_cell G.out 1
  simp at d0 d1
  go_wp2_with fail
  refine (toSpec_z 17592186043904 z _ _ (HZ.out.ext HE.out) (by omega)).mono ?_
  rintro e w4 ⟨he, y4, rfl, hy⟩
  obtain ⟨m4, b4, l4, d4, rfl⟩ := hy.form
  replace HE := Lib.hid (HE.out.trans he)
  replace HS3 := Lib.hid (HS3.out.ext he)
  replace G := Lib.hid (he.block G.out)
  have HY4 := Lib.hid hy
  clear he hy d0 d1
  go_wp2_with fail
  refine (specBitLen_z 17592186043904 z _ _ HY4.out.z (by omega)).mono ?_
  rintro e w5 ⟨he, y5, rfl, hy⟩
  obtain rfl : y5 = .int .i64 (blen z : Nat) := hy
  replace HE := Lib.hid (HE.out.trans he)
  replace HS3 := Lib.hid (HS3.out.ext he)
  replace G := Lib.hid (he.block G.out)
  clear he HY4
  generalize blen z = bl at *
  have hd : decide (z.natAbs < 256 ^ bs.length) = true := by simpa using HF.out
  have hfl := fbl_fit HF.out
  rw [hd, hfl, beb_len]
  have h3 := HS3.out
  rw [hfl, beb_len] at h3
  replace HS3 := Lib.hid h3
  clear h3
  have hlt : (bl + 7) / 8 ≤ bs.length := by
    have h1 := HF.out
    rw [HFI.out] at h1
    exact h1
  have hle : decide (((bl : Int) + 7) / 8 ≤ (bs.length : Int)) = true := by simp; omega
  have hbb : (true != true) = false := rfl
  clear hd hfl
  go_wp2_with fail

  refine wp_region_D preExt mixed [IsZ (17592186043904) (z), IsW (17592186043904) (z), Is (.slice a1 bs.length c1), Is (.int .i64 (bs.length : Nat)), IsR8 (List.replicate (bs.length) 0), IsFb (bs.length) ((z).natAbs), IsFb (bs.length) ((z).natAbs), IsR8 (beb (bs.length) (z).natAbs), Is (.bool true), IsR8 (beb (bs.length) (z).natAbs)] (by kernel_rfl) ?mono rfl ?steps ?last
  case mono =>
    simp only [List.forall_mem_cons, List.not_mem_nil, false_implies, implies_true, and_true]
    refine ⟨?_, ?_, ?_, ?_, ?_, ?_, ?_, ?_, ?_, ?_⟩
    all_goals first | exact fun _ _ _ _ q => q | exact fun _ _ _ he q => q.ext he
  case steps =>
    refine ⟨?_, ?_, ?_, ?_, ?_, ?_, ?_, ?_, ?_, ?_, trivial⟩
    all_goals
      intro u0 u1 u2 u3 u4 u5 u6 u7 u8 u9 u10 w1 he hk
      simp [KnownD, Oper.looksAt, Op.operands, Call.operands, List.findIdx?_cons, Act.put] at hk
      simp only [Act.put, List.setIfInBounds_toArray, List.set_cons_succ, List.set_cons_zero]
    · have hb := he.block G.out
      have q0 := blk_cell hb 0
      have q1 := blk_cell hb 1
      simp at q0 q1
      clear hb
      go_wp2_with fail
      exact ⟨rfl, Ext.refl _, HZ.out.ext (HE.out.trans he)⟩
    · have k0 := hk
      have H0 := Lib.hid k0
      clear k0
      go_wp2_with fail
      refine (toImpl_z (17592186043904) (z) _ _ (H0.out) (by omega)).mono ?_
      rintro e w2 ⟨he2, x, rfl, hx⟩
      have HX := Lib.hid hx
      clear hx
      go_wp2_with fail
      exact ⟨rfl, he2, HX.out⟩
    · go_wp2_with fail
      exact ⟨rfl, Ext.refl _, by show (_ : Value) = _; (first | rfl | simp); try rfl⟩
    · have k0 := hk
      obtain rfl : u2 = .slice a1 bs.length c1 := k0
      go_wp2_with fail
      exact ⟨rfl, Ext.refl _, by show (_ : Value) = _; (rfl); try rfl⟩
    · have k0 := hk
      obtain rfl : u3 = .int .i64 (bs.length : Nat) := k0
      go_wp2_with fail
      exact ⟨rfl, Ext.alloc _ _, made_rd _ _ (by omega)⟩
    · obtain ⟨k0, k1⟩ := hk
      have H0 := Lib.hid k0
      have H1 := Lib.hid k1
      clear k0 k1
      go_wp2_with fail
      refine (implFillBytes_b (17592186043904) (z) _ _ (bs.length) _ (H0.out.z) (by omega) H1.out (by omega)).mono ?_
      rintro e w2 ⟨he2, x, rfl, hx⟩
      have HX := Lib.hid hx
      clear hx
      go_wp2_with fail
      exact ⟨rfl, he2, HX.out⟩
    · have k0 := hk
      go_wp2_with fail
      exact ⟨rfl, Ext.refl _, k0⟩
    · have k0 := hk
      obtain ⟨s, rfl, hr⟩ := k0
      rw [fbl_fit HF.out] at hr
      have HR9 := Lib.hid hr
      clear hr
      go_wp2_with fail
      exact ⟨rfl, Ext.refl _, HR9.out⟩
    · have k0 := hk
      obtain ⟨s, rfl, hr⟩ := k0
      have hd : decide ((z).natAbs < 256 ^ bs.length) = true := by simpa using HF.out
      rw [hd]
      clear hr hd
      go_wp2_with fail
      exact ⟨rfl, Ext.refl _, rfl⟩
    · have k0 := hk
      go_wp2_with fail
      exact ⟨rfl, Ext.refl _, k0⟩
  case last =>
    rename_i K aK
    have AK := Lib.hid aK
    clear aK
    intro w7 he u0 h0 u1 h1 u2 h2 u3 h3 u4 h4 u5 h5 u6 h6 u7 h7 u8 h8 u9 h9
    obtain rfl : u8 = .bool true := h8
    have hy : IsR8 (beb (bs.length) (z).natAbs) u9 w7 := h9
    clear h0 h1 h2 h3 h4 h5 h6 h7 h9
    obtain ⟨a9, c9, rfl⟩ := Rd.form hy
    simp only [LastD, Act.put, List.setIfInBounds_toArray, List.set_cons_succ, List.set_cons_zero]
    have HE7 := Lib.hid (HE.out.trans he)
    have HC7 := Lib.hid hy
    have HS7 := Lib.hid (HS3.out.ext he)
    have G7 := Lib.hid (he.block G.out)
    clear he hy HE HS3 G
    go_wp2_with fail
    refine AK.out _ _ ?_
    clear AK
    go_wp2_with fail

    refine wp_region_D preExt mixed [Is (.bool true), Is (.bool true), IsR8 (beb (bs.length) (z).natAbs), Is (.int .i64 (bs.length : Nat)), Is (.slice a1 bs.length c1), Is (.int .i64 (bs.length : Nat)), Is (.bool true), Is (.bool true), Is (.bool true), IsR8 (beb (bs.length) (z).natAbs), Is (.string (strN (beb (bs.length) (z).natAbs))), IsR8 (beb (bs.length) (z).natAbs), Is (.string (strN (beb (bs.length) (z).natAbs))), Is (.bool true), Is (.bool true), Is (.bool true), IsR8 (beb (bs.length) (z).natAbs), IsC (17592186044416) (((z).natAbs : Int)), IsZ (17592186043904) (z), IsC (17592186043904) (((z).natAbs : Int)), Is (.bool true), Is (.bool true), Is (.bool true), IsZ (17592186043904) (z), Is (.bool true), Is (.bool true), Is undef, Is undef, Is undef, Is (.bool true), Is (.bool true)] (by kernel_rfl) ?mono rfl ?steps ?last
    case mono =>
      simp only [List.forall_mem_cons, List.not_mem_nil, false_implies, implies_true, and_true]
      refine ⟨?_, ?_, ?_, ?_, ?_, ?_, ?_, ?_, ?_, ?_, ?_, ?_, ?_, ?_, ?_, ?_, ?_, ?_, ?_, ?_, ?_, ?_, ?_, ?_, ?_, ?_, ?_, ?_, ?_, ?_, ?_⟩
      all_goals first | exact fun _ _ _ _ q => q | exact fun _ _ _ he q => q.ext he
    case steps =>
      refine ⟨?_, ?_, ?_, ?_, ?_, ?_, ?_, ?_, ?_, ?_, ?_, ?_, ?_, ?_, ?_, ?_, ?_, ?_, ?_, ?_, ?_, ?_, ?_, ?_, ?_, ?_, ?_, ?_, ?_, ?_, ?_, trivial⟩
      all_goals
        intro u0 u1 u2 u3 u4 u5 u6 u7 u8 u9 u10 u11 u12 u13 u14 u15 u16 u17 u18 u19 u20 u21 u22 u23 u24 u25 u26 u27 u28 u29 u30 u31 w1 he hk
        simp [KnownD, Oper.looksAt, Op.operands, Call.operands, List.findIdx?_cons, Act.put] at hk
        simp only [Act.put, List.setIfInBounds_toArray, List.set_cons_succ, List.set_cons_zero]
      · go_wp2_with fail
        exact ⟨rfl, Ext.refl _, by show (_ : Value) = _; (first | rfl | simp); try rfl⟩
      · have k0 := hk
        obtain rfl : u0 = .bool true := k0
        go_wp2_with fail
        exact ⟨rfl, Ext.refl _, by show (_ : Value) = _; (first | rfl | simp); try rfl⟩
      · have k0 := hk
        obtain rfl : u1 = .bool true := k0
        go_wp2_with fail
        exact ⟨rfl, Ext.refl _, HS7.out.ext he⟩
      · obtain ⟨k0, k1⟩ := hk
        obtain rfl : u1 = .bool true := k1
        obtain ⟨a', c', rfl⟩ := Rd.form k0
        rw [beb_len]
        clear k0
        go_wp2_with fail
        exact ⟨rfl, Ext.refl _, rfl⟩
      · have k0 := hk
        obtain rfl : u1 = .bool true := k0
        go_wp2_with fail
        exact ⟨rfl, Ext.refl _, by show (_ : Value) = _; (first | rfl | simp); try rfl⟩
      · obtain ⟨k0, k1⟩ := hk
        obtain rfl : u4 = .slice a1 bs.length c1 := k0
        obtain rfl : u1 = .bool true := k1
        go_wp2_with fail
        exact ⟨rfl, Ext.refl _, by show (_ : Value) = _; (rfl); try rfl⟩
      · obtain ⟨k0, k1, k2⟩ := hk
        obtain rfl : u3 = .int .i64 (bs.length : Nat) := k0
        obtain rfl : u5 = .int .i64 (bs.length : Nat) := k1
        obtain rfl : u1 = .bool true := k2
        go_wp2_with fail
        exact ⟨rfl, Ext.refl _, by show (_ : Value) = _; (simp); try rfl⟩
      · obtain ⟨k0, k1⟩ := hk
        obtain rfl : u1 = .bool true := k0
        obtain rfl : u6 = .bool true := k1
        go_wp2_with fail
        exact ⟨rfl, Ext.refl _, by show (_ : Value) = _; (first | rfl | simp); try rfl⟩
      · have k0 := hk
        obtain rfl : u7 = .bool true := k0
        go_wp2_with fail
        exact ⟨rfl, Ext.refl _, by show (_ : Value) = _; (first | rfl | simp); try rfl⟩
      · have k0 := hk
        obtain rfl : u8 = .bool true := k0
        go_wp2_with fail
        exact ⟨rfl, Ext.refl _, HS7.out.ext he⟩
      · obtain ⟨k0, k1⟩ := hk
        obtain rfl : u8 = .bool true := k1
        obtain ⟨a', c', rfl⟩ := Rd.form k0
        have hcv := conv_rd _ _ _ k0
        go_wp2_with fail
        exact ⟨rfl, Ext.refl _, rfl⟩
      · have k0 := hk
        obtain rfl : u8 = .bool true := k0
        go_wp2_with fail
        exact ⟨rfl, Ext.refl _, HC7.out.ext he⟩
      · obtain ⟨k0, k1⟩ := hk
        obtain rfl : u8 = .bool true := k1
        obtain ⟨a', c', rfl⟩ := Rd.form k0
        have hcv := conv_rd _ _ _ k0
        go_wp2_with fail
        exact ⟨rfl, Ext.refl _, rfl⟩
      · obtain ⟨k0, k1, k2⟩ := hk
        obtain rfl : u10 = .string (strN (beb (bs.length) (z).natAbs)) := k0
        obtain rfl : u12 = .string (strN (beb (bs.length) (z).natAbs)) := k1
        obtain rfl : u8 = .bool true := k2
        go_wp2_with fail
        exact ⟨rfl, Ext.refl _, by show (_ : Value) = _; (simp); try rfl⟩
      · obtain ⟨k0, k1⟩ := hk
        obtain rfl : u8 = .bool true := k0
        obtain rfl : u13 = .bool true := k1
        go_wp2_with fail
        exact ⟨rfl, Ext.refl _, by show (_ : Value) = _; (first | rfl | simp); try rfl⟩
      · have k0 := hk
        obtain rfl : u14 = .bool true := k0
        go_wp2_with fail
        exact ⟨rfl, Ext.refl _, by show (_ : Value) = _; (first | rfl | simp); try rfl⟩
      · have k0 := hk
        obtain rfl : u15 = .bool true := k0
        go_wp2_with fail
        exact ⟨rfl, Ext.refl _, HS7.out.ext he⟩
      · obtain ⟨k0, k1⟩ := hk
        obtain rfl : u15 = .bool true := k1
        have H0 := Lib.hid k0
        clear k0
        go_wp2_with fail
        refine (setBytes_f (17592186044416) (bs.length) (z) _ _ H0.out HF.out (by omega) (by omega)).mono ?_
        rintro e w2 ⟨he2, x, rfl, hx⟩
        have HX := Lib.hid hx
        clear hx
        go_wp2_with fail
        exact ⟨rfl, he2, HX.out⟩
      · have k0 := hk
        obtain rfl : u15 = .bool true := k0
        have hb := he.block G7.out
        have q0 := blk_cell hb 0
        have q1 := blk_cell hb 1
        simp at q0 q1
        clear hb
        go_wp2_with fail
        exact ⟨rfl, Ext.refl _, HZ.out.ext (HE7.out.trans he)⟩
      · obtain ⟨k0, k1⟩ := hk
        obtain rfl : u15 = .bool true := k1
        have H0 := Lib.hid k0
        clear k0
        go_wp2_with fail
        refine (abs_z (17592186043904) (z) _ _ (H0.out) (by omega)).mono ?_
        rintro e w2 ⟨he2, x, rfl, hx⟩
        have HX := Lib.hid hx
        clear hx
        go_wp2_with fail
        exact ⟨rfl, he2, HX.out⟩
      · obtain ⟨k0, k1, k2⟩ := hk
        obtain rfl : u15 = .bool true := k2
        have H0 : Hid (IsC (17592186044416) (((z).natAbs : Int)) u17 w1) := Lib.hid (by first | exact k0 | simpa using k0)
        have H1 : Hid (IsC (17592186043904) (((z).natAbs : Int)) u19 w1) := Lib.hid (by first | exact k1 | simpa using k1)
        clear k0 k1
        go_wp2_with fail
        refine (same_z (17592186044416) (17592186043904) (((z).natAbs : Int)) (((z).natAbs : Int)) _ _ _ (H0.out.z) (H1.out.z) (by omega) (by omega)).mono ?_
        rintro e w2 ⟨he2, x, rfl, hx⟩
        obtain rfl : x = .bool true := hx.trans (by simp)
        go_wp2_with fail
        exact ⟨rfl, he2, rfl⟩
      · obtain ⟨k0, k1⟩ := hk
        obtain rfl : u15 = .bool true := k0
        obtain rfl : u20 = .bool true := k1
        go_wp2_with fail
        exact ⟨rfl, Ext.refl _, by show (_ : Value) = _; (first | rfl | simp); try rfl⟩
      · have k0 := hk
        obtain rfl : u21 = .bool true := k0
        go_wp2_with fail
        exact ⟨rfl, Ext.refl _, by show (_ : Value) = _; (first | rfl | simp); try rfl⟩
      · have k0 := hk
        obtain rfl : u22 = .bool true := k0
        have hb := he.block G7.out
        have q0 := blk_cell hb 0
        have q1 := blk_cell hb 1
        simp at q0 q1
        clear hb
        go_wp2_with fail
        exact ⟨rfl, Ext.refl _, HZ.out.ext (HE7.out.trans he)⟩
      · obtain ⟨k0, k1⟩ := hk
        obtain rfl : u22 = .bool true := k1
        have H0 := Lib.hid k0
        clear k0
        go_wp2_with fail
        refine (zero_z (17592186043904) (z) _ _ (H0.out) (by omega)).mono ?_
        rintro e w2 ⟨he2, x, rfl, hx⟩
        obtain rfl : x = .bool true := hx.trans (by have := HZC.out; simpa using this)
        go_wp2_with fail
        exact ⟨rfl, he2, rfl⟩
      · obtain ⟨k0, k1⟩ := hk
        obtain rfl : u24 = .bool true := k0
        obtain rfl : u22 = .bool true := k1
        go_wp2_with fail
        exact ⟨rfl, Ext.refl _, by show (_ : Value) = _; (first | rfl | simp); try rfl⟩
      · have k0 := hk
        obtain rfl : u25 = .bool true := k0
        go_wp2_with fail
        exact ⟨rfl, Ext.refl _, rfl⟩
      · obtain ⟨k0, k1⟩ := hk
        obtain rfl : u26 = undef := k0
        obtain rfl : u25 = .bool true := k1
        go_wp2_with fail
        exact ⟨rfl, Ext.refl _, rfl⟩
      · obtain ⟨k0, k1⟩ := hk
        obtain rfl : u27 = undef := k0
        obtain rfl : u25 = .bool true := k1
        go_wp2_with fail
        exact ⟨rfl, Ext.refl _, rfl⟩
      · obtain ⟨k0, k1, k2⟩ := hk
        obtain rfl : u25 = .bool true := k0
        obtain rfl : u28 = undef := k1
        obtain rfl : u22 = .bool true := k2
        go_wp2_with fail
        exact ⟨rfl, Ext.refl _, by show (_ : Value) = _; (first | rfl | simp); try rfl⟩
      · obtain ⟨k0, k1⟩ := hk
        obtain rfl : u22 = .bool true := k0
        obtain rfl : u29 = .bool true := k1
        go_wp2_with fail
        exact ⟨rfl, Ext.refl _, by show (_ : Value) = _; (first | rfl | simp); try rfl⟩
    case last =>
      intro w1 he u0 h0 u1 h1 u2 h2 u3 h3 u4 h4 u5 h5 u6 h6 u7 h7 u8 h8 u9 h9 u10 h10 u11 h11 u12 h12 u13 h13 u14 h14 u15 h15 u16 h16 u17 h17 u18 h18 u19 h19 u20 h20 u21 h21 u22 h22 u23 h23 u24 h24 u25 h25 u26 h26 u27 h27 u28 h28 u29 h29 u30 h30
      obtain rfl : u30 = .bool true := h30
      clear h0 h1 h2 h3 h4 h5 h6 h7 h8 h9 h10 h11 h12 h13 h14 h15 h16 h17 h18 h19 h20 h21 h22 h23 h24 h25 h26 h27 h28 h29
      simp only [LastD, Act.put, List.setIfInBounds_toArray, List.set_cons_succ, List.set_cons_zero]
      have HE := Lib.hid ((HE7.out).trans he)
      clear he
      go_wp2_with fail
      go_ret
      exact ⟨HE.out, rfl⟩



set_option maxRecDepth 10000 in
set_option maxHeartbeats 4000000 in
theorem fnFillBytes_yes_n (n0 : Bool) (v0 : Value) (ws0 : List Nat) (v1 : Value) (bs : List Nat) (w : World) (hr0 : Rd .u64 w v0 ws0) (hl0 : ws0.length ≤ 17592186043904) (hr1 : Rd .u8 w v1 bs) (hl1 : bs.length ≤ 140737488351232) (hf : (ival n0 ws0).natAbs < 256 ^ bs.length) (hzc : ival n0 ws0 ≠ 0) :
    Calls Try.prog 7 #[.agg #[.bool n0, v0], v1] w (ValR (.bool true) w) := by
  obtain ⟨a0, c0, rfl⟩ := hr0.form
  obtain ⟨a1, c1, rfl⟩ := hr1.form
  have hz0 : IsZ 17592186043904 (ival n0 ws0) (.agg #[.bool n0, .slice a0 ws0.length c0]) w := ⟨n0, _, ws0, rfl, hr0, hl0, rfl⟩
  have hbl0 : blen (ival n0 ws0) ≤ 64 * ws0.length := by rw [blen, blenN_le_iff, ival_abs, ← pow64]; exact val_lt ws0 hr0.1
  generalize ival n0 ws0 = z at *
  have hfi : (z.natAbs < 256 ^ bs.length) = ((blen z + 7) / 8 ≤ bs.length) := propext (fit_iff bs.length z.natAbs)
  have HFI := Lib.hid hfi
  have HZ := Lib.hid hz0
  have HR := Lib.hid hr1
  have HF := Lib.hid hf
  have hbl : blen z ≤ 1125899906842624 := by omega
  obtain ⟨i0, hi, hz0', hz1, hz2⟩ := info_parts infoByte
  have hmk := fun wx : World => run_make (P := Try.prog) wx 26 5 i0 _ Try.underlying26 hi hz0' .i64 .i64 (bs.length : Int) (bs.length : Int) (by omega) (by omega) (by rw [hz2]; omega) (by omega)
  rw [hz1, Int.toNat_natCast, Nat.mul_one] at hmk
  have HZC := Lib.hid hzc
  clear hi hz0' hz1 hz2 hzc
  clear hr0 hr1 hz0 hfi hf hbl0
  go_enter Try.func7, Try.ntmps7
  go_wp2_with fail
  refine (toImpl_z 17592186043904 z _ _ (HZ.out.ext (Ext.alloc _ _)) (by omega)).mono ?_
  rintro e w1 ⟨he, y1, rfl, hy⟩
  obtain ⟨m1, b1, l1, d1, rfl⟩ := hy.form
  have HE := Lib.hid ((Ext.alloc _ _).trans he)
  have G := Lib.hid (he.block (heap_alloc_new w (.cells #[.bool n0, .slice a0 ws0.length c0] 24)))
  have HY1 := Lib.hid hy
  clear he hy
  go_wp2_with fail
  refine (implFillBytes_z 17592186043904 z _ _ bs _ HY1.out.z (by omega) (HR.out.ext HE.out) (by omega)).mono ?_
  rintro e w3 ⟨he, y3, rfl, s3, rfl, hs3⟩
  obtain ⟨a3, c3, rfl⟩ := hs3.form
  replace HE := Lib.hid (HE.out.trans he)
  replace G := Lib.hid (he.block G.out)
  have HS3 := Lib.hid hs3
  clear he hs3 HY1
  have d0 := blk_cell G.out 0
  have d1 := blk_cell G.out 1
  simp at d0 d1
  go_wp2_with fail
  refine (toSpec_z 17592186043904 z _ _ (HZ.out.ext HE.out) (by omega)).mono ?_
  rintro e w4 ⟨he, y4, rfl, hy⟩
  obtain ⟨m4, b4, l4, d4, rfl⟩ := hy.form
  replace HE := Lib.hid (HE.out.trans he)
  replace HS3 := Lib.hid (HS3.out.ext he)
  replace G := Lib.hid (he.block G.out)
  have HY4 := Lib.hid hy
  clear he hy d0 d1
  go_wp2_with fail
  refine (specBitLen_z 17592186043904 z _ _ HY4.out.z (by omega)).mono ?_
  rintro e w5 ⟨he, y5, rfl, hy⟩
  obtain rfl : y5 = .int .i64 (blen z : Nat) := hy
  replace HE := Lib.hid (HE.out.trans he)
  replace HS3 := Lib.hid (HS3.out.ext he)
  replace G := Lib.hid (he.block G.out)
  clear he HY4
  generalize blen z = bl at *
  have hd : decide (z.natAbs < 256 ^ bs.length) = true := by simpa using HF.out
  have hfl := fbl_fit HF.out
  rw [hd, hfl, beb_len]
  have h3 := HS3.out
  rw [hfl, beb_len] at h3
  replace HS3 := Lib.hid h3
  clear h3
  have hlt : (bl + 7) / 8 ≤ bs.length := by
    have h1 := HF.out
    rw [HFI.out] at h1
    exact h1
  have hle : decide (((bl : Int) + 7) / 8 ≤ (bs.length : Int)) = true := by simp; omega
  have hbb : (true != true) = false := rfl
  clear hd hfl
  go_wp2_with fail

  refine wp_region_D preExt mixed [IsZ (17592186043904) (z), IsW (17592186043904) (z), Is (.slice a1 bs.length c1), Is (.int .i64 (bs.length : Nat)), IsR8 (List.replicate (bs.length) 0), IsFb (bs.length) ((z).natAbs), IsFb (bs.length) ((z).natAbs), IsR8 (beb (bs.length) (z).natAbs), Is (.bool true), IsR8 (beb (bs.length) (z).natAbs)] (by kernel_rfl) ?mono rfl ?steps ?last
  case mono =>
    simp only [List.forall_mem_cons, List.not_mem_nil, false_implies, implies_true, and_true]
    refine ⟨?_, ?_, ?_, ?_, ?_, ?_, ?_, ?_, ?_, ?_⟩
    all_goals first | exact fun _ _ _ _ q => q | exact fun _ _ _ he q => q.ext he
  case steps =>
    refine ⟨?_, ?_, ?_, ?_, ?_, ?_, ?_, ?_, ?_, ?_, trivial⟩
    all_goals
      intro u0 u1 u2 u3 u4 u5 u6 u7 u8 u9 u10 w1 he hk
      simp [KnownD, Oper.looksAt, Op.operands, Call.operands, List.findIdx?_cons, Act.put] at hk
      simp only [Act.put, List.setIfInBounds_toArray, List.set_cons_succ, List.set_cons_zero]
    · have hb := he.block G.out
      have q0 := blk_cell hb 0
      have q1 := blk_cell hb 1
      simp at q0 q1
      clear hb
      go_wp2_with fail
      exact ⟨rfl, Ext.refl _, HZ.out.ext (HE.out.trans he)⟩
    · have k0 := hk
      have H0 := Lib.hid k0
      clear k0
      go_wp2_with fail
      refine (toImpl_z (17592186043904) (z) _ _ (H0.out) (by omega)).mono ?_
      rintro e w2 ⟨he2, x, rfl, hx⟩
      have HX := Lib.hid hx
      clear hx
      go_wp2_with fail
      exact ⟨rfl, he2, HX.out⟩
    · go_wp2_with fail
      exact ⟨rfl, Ext.refl _, by show (_ : Value) = _; (first | rfl | simp); try rfl⟩
    · have k0 := hk
      obtain rfl : u2 = .slice a1 bs.length c1 := k0
      go_wp2_with fail
      exact ⟨rfl, Ext.refl _, by show (_ : Value) = _; (rfl); try rfl⟩
    · have k0 := hk
      obtain rfl : u3 = .int .i64 (bs.length : Nat) := k0
      go_wp2_with fail
      exact ⟨rfl, Ext.alloc _ _, made_rd _ _ (by omega)⟩
    · obtain ⟨k0, k1⟩ := hk
      have H0 := Lib.hid k0
      have H1 := Lib.hid k1
      clear k0 k1
      go_wp2_with fail
      refine (implFillBytes_b (17592186043904) (z) _ _ (bs.length) _ (H0.out.z) (by omega) H1.out (by omega)).mono ?_
      rintro e w2 ⟨he2, x, rfl, hx⟩
      have HX := Lib.hid hx
      clear hx
      go_wp2_with fail
      exact ⟨rfl, he2, HX.out⟩
    · have k0 := hk
      go_wp2_with fail
      exact ⟨rfl, Ext.refl _, k0⟩
    · have k0 := hk
      obtain ⟨s, rfl, hr⟩ := k0
      rw [fbl_fit HF.out] at hr
      have HR9 := Lib.hid hr
      clear hr
      go_wp2_with fail
      exact ⟨rfl, Ext.refl _, HR9.out⟩
    · have k0 := hk
      obtain ⟨s, rfl, hr⟩ := k0
      have hd : decide ((z).natAbs < 256 ^ bs.length) = true := by simpa using HF.out
      rw [hd]
      clear hr hd
      go_wp2_with fail
      exact ⟨rfl, Ext.refl _, rfl⟩
    · have k0 := hk
      go_wp2_with fail
      exact ⟨rfl, Ext.refl _, k0⟩
  case last =>
    rename_i K aK
    have AK := Lib.hid aK
    clear aK
    intro w7 he u0 h0 u1 h1 u2 h2 u3 h3 u4 h4 u5 h5 u6 h6 u7 h7 u8 h8 u9 h9
    obtain rfl : u8 = .bool true := h8
    have hy : IsR8 (beb (bs.length) (z).natAbs) u9 w7 := h9
    clear h0 h1 h2 h3 h4 h5 h6 h7 h9
    obtain ⟨a9, c9, rfl⟩ := Rd.form hy
    simp only [LastD, Act.put, List.setIfInBounds_toArray, List.set_cons_succ, List.set_cons_zero]
    have HE7 := Lib.hid (HE.out.trans he)
    have HC7 := Lib.hid hy
    have HS7 := Lib.hid (HS3.out.ext he)
    have G7 := Lib.hid (he.block G.out)
    clear he hy HE HS3 G
    go_wp2_with fail
    refine AK.out _ _ ?_
    clear AK
    go_wp2_with fail

    refine wp_region_D preExt mixed [Is (.bool true), Is (.bool true), IsR8 (beb (bs.length) (z).natAbs), Is (.int .i64 (bs.length : Nat)), Is (.slice a1 bs.length c1), Is (.int .i64 (bs.length : Nat)), Is (.bool true), Is (.bool true), Is (.bool true), IsR8 (beb (bs.length) (z).natAbs), Is (.string (strN (beb (bs.length) (z).natAbs))), IsR8 (beb (bs.length) (z).natAbs), Is (.string (strN (beb (bs.length) (z).natAbs))), Is (.bool true), Is (.bool true), Is (.bool true), IsR8 (beb (bs.length) (z).natAbs), IsC (17592186044416) (((z).natAbs : Int)), IsZ (17592186043904) (z), IsC (17592186043904) (((z).natAbs : Int)), Is (.bool true), Is (.bool true), Is (.bool true), IsZ (17592186043904) (z), Is (.bool false), Is (.bool false), IsR8 (beb (bs.length) (z).natAbs), Is (.bool false), Is (.bool true), Is (.bool true), Is (.bool true)] (by kernel_rfl) ?mono rfl ?steps ?last
    case mono =>
      simp only [List.forall_mem_cons, List.not_mem_nil, false_implies, implies_true, and_true]
      refine ⟨?_, ?_, ?_, ?_, ?_, ?_, ?_, ?_, ?_, ?_, ?_, ?_, ?_, ?_, ?_, ?_, ?_, ?_, ?_, ?_, ?_, ?_, ?_, ?_, ?_, ?_, ?_, ?_, ?_, ?_, ?_⟩
      all_goals first | exact fun _ _ _ _ q => q | exact fun _ _ _ he q => q.ext he
    case steps =>
      refine ⟨?_, ?_, ?_, ?_, ?_, ?_, ?_, ?_, ?_, ?_, ?_, ?_, ?_, ?_, ?_, ?_, ?_, ?_, ?_, ?_, ?_, ?_, ?_, ?_, ?_, ?_, ?_, ?_, ?_, ?_, ?_, trivial⟩
      all_goals
        intro u0 u1 u2 u3 u4 u5 u6 u7 u8 u9 u10 u11 u12 u13 u14 u15 u16 u17 u18 u19 u20 u21 u22 u23 u24 u25 u26 u27 u28 u29 u30 u31 w1 he hk
        simp [KnownD, Oper.looksAt, Op.operands, Call.operands, List.findIdx?_cons, Act.put] at hk
        simp only [Act.put, List.setIfInBounds_toArray, List.set_cons_succ, List.set_cons_zero]
      · go_wp2_with fail
        exact ⟨rfl, Ext.refl _, by show (_ : Value) = _; (first | rfl | simp); try rfl⟩
      · have k0 := hk
        obtain rfl : u0 = .bool true := k0
        go_wp2_with fail
        exact ⟨rfl, Ext.refl _, by show (_ : Value) = _; (first | rfl | simp); try rfl⟩
      · have k0 := hk
        obtain rfl : u1 = .bool true := k0
        go_wp2_with fail
        exact ⟨rfl, Ext.refl _, HS7.out.ext he⟩
      · obtain ⟨k0, k1⟩ := hk
        obtain rfl : u1 = .bool true := k1
        obtain ⟨a', c', rfl⟩ := Rd.form k0
        rw [beb_len]
        clear k0
        go_wp2_with fail
        exact ⟨rfl, Ext.refl _, rfl⟩
      · have k0 := hk
        obtain rfl : u1 = .bool true := k0
        go_wp2_with fail
        exact ⟨rfl, Ext.refl _, by show (_ : Value) = _; (first | rfl | simp); try rfl⟩
      · obtain ⟨k0, k1⟩ := hk
        obtain rfl : u4 = .slice a1 bs.length c1 := k0
        obtain rfl : u1 = .bool true := k1
        go_wp2_with fail
        exact ⟨rfl, Ext.refl _, by show (_ : Value) = _; (rfl); try rfl⟩
      · obtain ⟨k0, k1, k2⟩ := hk
        obtain rfl : u3 = .int .i64 (bs.length : Nat) := k0
        obtain rfl : u5 = .int .i64 (bs.length : Nat) := k1
        obtain rfl : u1 = .bool true := k2
        go_wp2_with fail
        exact ⟨rfl, Ext.refl _, by show (_ : Value) = _; (simp); try rfl⟩
      · obtain ⟨k0, k1⟩ := hk
        obtain rfl : u1 = .bool true := k0
        obtain rfl : u6 = .bool true := k1
        go_wp2_with fail
        exact ⟨rfl, Ext.refl _, by show (_ : Value) = _; (first | rfl | simp); try rfl⟩
      · have k0 := hk
        obtain rfl : u7 = .bool true := k0
        go_wp2_with fail
        exact ⟨rfl, Ext.refl _, by show (_ : Value) = _; (first | rfl | simp); try rfl⟩
      · have k0 := hk
        obtain rfl : u8 = .bool true := k0
        go_wp2_with fail
        exact ⟨rfl, Ext.refl _, HS7.out.ext he⟩
      · obtain ⟨k0, k1⟩ := hk
        obtain rfl : u8 = .bool true := k1
        obtain ⟨a', c', rfl⟩ := Rd.form k0
        have hcv := conv_rd _ _ _ k0
        go_wp2_with fail
        exact ⟨rfl, Ext.refl _, rfl⟩
      · have k0 := hk
        obtain rfl : u8 = .bool true := k0
        go_wp2_with fail
        exact ⟨rfl, Ext.refl _, HC7.out.ext he⟩
      · obtain ⟨k0, k1⟩ := hk
        obtain rfl : u8 = .bool true := k1
        obtain ⟨a', c', rfl⟩ := Rd.form k0
        have hcv := conv_rd _ _ _ k0
        go_wp2_with fail
        exact ⟨rfl, Ext.refl _, rfl⟩
      · obtain ⟨k0, k1, k2⟩ := hk
        obtain rfl : u10 = .string (strN (beb (bs.length) (z).natAbs)) := k0
        obtain rfl : u12 = .string (strN (beb (bs.length) (z).natAbs)) := k1
        obtain rfl : u8 = .bool true := k2
        go_wp2_with fail
        exact ⟨rfl, Ext.refl _, by show (_ : Value) = _; (simp); try rfl⟩
      · obtain ⟨k0, k1⟩ := hk
        obtain rfl : u8 = .bool true := k0
        obtain rfl : u13 = .bool true := k1
        go_wp2_with fail
        exact ⟨rfl, Ext.refl _, by show (_ : Value) = _; (first | rfl | simp); try rfl⟩
      · have k0 := hk
        obtain rfl : u14 = .bool true := k0
        go_wp2_with fail
        exact ⟨rfl, Ext.refl _, by show (_ : Value) = _; (first | rfl | simp); try rfl⟩
      · have k0 := hk
        obtain rfl : u15 = .bool true := k0
        go_wp2_with fail
        exact ⟨rfl, Ext.refl _, HS7.out.ext he⟩
      · obtain ⟨k0, k1⟩ := hk
        obtain rfl : u15 = .bool true := k1
        have H0 := Lib.hid k0
        clear k0
        go_wp2_with fail
        refine (setBytes_f (17592186044416) (bs.length) (z) _ _ H0.out HF.out (by omega) (by omega)).mono ?_
        rintro e w2 ⟨he2, x, rfl, hx⟩
        have HX := Lib.hid hx
        clear hx
        go_wp2_with fail
        exact ⟨rfl, he2, HX.out⟩
      · have k0 := hk
        obtain rfl : u15 = .bool true := k0
        have hb := he.block G7.out
        have q0 := blk_cell hb 0
        have q1 := blk_cell hb 1
        simp at q0 q1
        clear hb
        go_wp2_with fail
        exact ⟨rfl, Ext.refl _, HZ.out.ext (HE7.out.trans he)⟩
      · obtain ⟨k0, k1⟩ := hk
        obtain rfl : u15 = .bool true := k1
        have H0 := Lib.hid k0
        clear k0
        go_wp2_with fail
        refine (abs_z (17592186043904) (z) _ _ (H0.out) (by omega)).mono ?_
        rintro e w2 ⟨he2, x, rfl, hx⟩
        have HX := Lib.hid hx
        clear hx
        go_wp2_with fail
        exact ⟨rfl, he2, HX.out⟩
      · obtain ⟨k0, k1, k2⟩ := hk
        obtain rfl : u15 = .bool true := k2
        have H0 : Hid (IsC (17592186044416) (((z).natAbs : Int)) u17 w1) := Lib.hid (by first | exact k0 | simpa using k0)
        have H1 : Hid (IsC (17592186043904) (((z).natAbs : Int)) u19 w1) := Lib.hid (by first | exact k1 | simpa using k1)
        clear k0 k1
        go_wp2_with fail
        refine (same_z (17592186044416) (17592186043904) (((z).natAbs : Int)) (((z).natAbs : Int)) _ _ _ (H0.out.z) (H1.out.z) (by omega) (by omega)).mono ?_
        rintro e w2 ⟨he2, x, rfl, hx⟩
        obtain rfl : x = .bool true := hx.trans (by simp)
        go_wp2_with fail
        exact ⟨rfl, he2, rfl⟩
      · obtain ⟨k0, k1⟩ := hk
        obtain rfl : u15 = .bool true := k0
        obtain rfl : u20 = .bool true := k1
        go_wp2_with fail
        exact ⟨rfl, Ext.refl _, by show (_ : Value) = _; (first | rfl | simp); try rfl⟩
      · have k0 := hk
        obtain rfl : u21 = .bool true := k0
        go_wp2_with fail
        exact ⟨rfl, Ext.refl _, by show (_ : Value) = _; (first | rfl | simp); try rfl⟩
      · have k0 := hk
        obtain rfl : u22 = .bool true := k0
        have hb := he.block G7.out
        have q0 := blk_cell hb 0
        have q1 := blk_cell hb 1
        simp at q0 q1
        clear hb
        go_wp2_with fail
        exact ⟨rfl, Ext.refl _, HZ.out.ext (HE7.out.trans he)⟩
      · obtain ⟨k0, k1⟩ := hk
        obtain rfl : u22 = .bool true := k1
        have H0 := Lib.hid k0
        clear k0
        go_wp2_with fail
        refine (zero_z (17592186043904) (z) _ _ (H0.out) (by omega)).mono ?_
        rintro e w2 ⟨he2, x, rfl, hx⟩
        obtain rfl : x = .bool false := hx.trans (by have := HZC.out; simpa using this)
        go_wp2_with fail
        exact ⟨rfl, he2, rfl⟩
      · obtain ⟨k0, k1⟩ := hk
        obtain rfl : u24 = .bool false := k0
        obtain rfl : u22 = .bool true := k1
        go_wp2_with fail
        exact ⟨rfl, Ext.refl _, by show (_ : Value) = _; (first | rfl | simp); try rfl⟩
      · have k0 := hk
        obtain rfl : u25 = .bool false := k0
        go_wp2_with fail
        exact ⟨rfl, Ext.refl _, HS7.out.ext he⟩
      · obtain ⟨k0, k1⟩ := hk
        obtain rfl : u25 = .bool false := k1
        have H0 := Lib.hid k0
        clear k0
        go_wp2_with fail
        refine (noBits_z _ (beb (bs.length) (z).natAbs) _ H0.out (by rw [beb_len]; omega)).mono ?_
        rintro e w2 ⟨he2, x, rfl, hx⟩
        obtain rfl : x = .bool false := hx.trans (by rw [some_bit HF.out HZC.out])
        go_wp2_with fail
        exact ⟨rfl, he2, rfl⟩
      · obtain ⟨k0, k1⟩ := hk
        obtain rfl : u27 = .bool false := k0
        obtain rfl : u25 = .bool false := k1
        go_wp2_with fail
        exact ⟨rfl, Ext.refl _, by show (_ : Value) = _; (first | rfl | simp); try rfl⟩
      · obtain ⟨k0, k1, k2⟩ := hk
        obtain rfl : u25 = .bool false := k0
        obtain rfl : u28 = .bool true := k1
        obtain rfl : u22 = .bool true := k2
        go_wp2_with fail
        exact ⟨rfl, Ext.refl _, by show (_ : Value) = _; (first | rfl | simp); try rfl⟩
      · obtain ⟨k0, k1⟩ := hk
        obtain rfl : u22 = .bool true := k0
        obtain rfl : u29 = .bool true := k1
        go_wp2_with fail
        exact ⟨rfl, Ext.refl _, by show (_ : Value) = _; (first | rfl | simp); try rfl⟩
    case last =>
      intro w1 he u0 h0 u1 h1 u2 h2 u3 h3 u4 h4 u5 h5 u6 h6 u7 h7 u8 h8 u9 h9 u10 h10 u11 h11 u12 h12 u13 h13 u14 h14 u15 h15 u16 h16 u17 h17 u18 h18 u19 h19 u20 h20 u21 h21 u22 h22 u23 h23 u24 h24 u25 h25 u26 h26 u27 h27 u28 h28 u29 h29 u30 h30
      obtain rfl : u30 = .bool true := h30
      clear h0 h1 h2 h3 h4 h5 h6 h7 h8 h9 h10 h11 h12 h13 h14 h15 h16 h17 h18 h19 h20 h21 h22 h23 h24 h25 h26 h27 h28 h29
      simp only [LastD, Act.put, List.setIfInBounds_toArray, List.set_cons_succ, List.set_cons_zero]
      have HE := Lib.hid ((HE7.out).trans he)
      clear he
      go_wp2_with fail
      go_ret
      exact ⟨HE.out, rfl⟩



theorem fnFillBytes_walk (n0 : Bool) (v0 : Value) (ws0 : List Nat) (v1 : Value) (bs : List Nat) (w : World) (hr0 : Rd .u64 w v0 ws0) (hl0 : ws0.length ≤ 17592186043904) (hr1 : Rd .u8 w v1 bs) (hl1 : bs.length ≤ 140737488351232) :
    Calls Try.prog 7 #[.agg #[.bool n0, v0], v1] w (ValR (.bool true) w) := by
  by_cases hf : (ival n0 ws0).natAbs < 256 ^ bs.length
  · by_cases hz : ival n0 ws0 = 0
    · exact fnFillBytes_yes_z n0 v0 ws0 v1 bs w hr0 hl0 hr1 hl1 hf hz
    · exact fnFillBytes_yes_n n0 v0 ws0 v1 bs w hr0 hl0 hr1 hl1 hf hz
  · exact fnFillBytes_no n0 v0 ws0 v1 bs w hr0 hl0 hr1 hl1 hf

end Go.Proofs.Ytfpkaamldifkbaa

