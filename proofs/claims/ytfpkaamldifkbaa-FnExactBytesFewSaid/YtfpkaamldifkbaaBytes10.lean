/- spec.Bytes (printed by lawgen.py). -/
import Derived.Test.YtfpkaamldifkbaaBytes8
set_option linter.unusedSimpArgs false
set_option linter.unusedVariables false
namespace Go.Proofs.Ytfpkaamldifkbaa
open Go.RowKit

set_option maxHeartbeats 1000000 in
theorem specBytes_z (L : Nat) (z : Int) (x0 : Value) (w : World)  (hz0 : IsZ (L) (z) x0 w) (hL : L ≤ 17592186044416) :
    Calls Try.prog 13 #[x0] w (ResR (IsR8 (beb (nby (z).natAbs) (z).natAbs)) w) := by
  obtain ⟨n0, a0, l0, c0, rfl⟩ := hz0.form
  have HZ0 := Lib.hid hz0
  clear hz0
  have hbl : blen z + 7 ≤ 9223372036854775800 := by
    obtain ⟨nn, s, ws, _, hr, hl, hz⟩ := HZ0.out
    have hvz : z.natAbs = val ws := by rw [← hz, ival_abs]
    have : blen z ≤ 64 * ws.length := by rw [blen, blenN_le_iff, hvz, ← pow64]; exact val_lt ws hr.1
    omega
  have HNB : Hid (nby (z).natAbs ≤ 140737488355328) := by
    obtain ⟨nn, s, ws, _, hr, hl, hz⟩ := HZ0.out
    have hvz : z.natAbs = val ws := by rw [← hz, ival_abs]
    have : blen z ≤ 64 * ws.length := by rw [blen, blenN_le_iff, hvz, ← pow64]; exact val_lt ws hr.1
    have h2 : nby (z).natAbs = (blen z + 7) / 8 := rfl
    exact Lib.hid (by omega)
  have HQ : Hid (Value.int .i64 (((blen z : Nat) + 7 : Int) / 8) = .int .i64 (nby (z).natAbs : Nat)) := Lib.hid (by
    have h2 : nby (z).natAbs = (blen z + 7) / 8 := rfl
    rw [h2]; push_cast; rfl)
  go_enter Try.func13, Try.ntmps13
  go_wp2_with fail
  refine wp_region_D preExt mixed [IsZ (L) (z), IsZ (L) (z), Is (.int .i64 (blen (z) : Nat)), Is (.int .i64 ((blen (z) : Nat) + 7 : Int)), Is (.int .i64 (nby (z).natAbs : Nat)), IsFb (nby (z).natAbs) ((z).natAbs), IsFb (nby (z).natAbs) ((z).natAbs), IsR8 (beb (nby (z).natAbs) (z).natAbs), Is (.bool true), IsR8 (beb (nby (z).natAbs) (z).natAbs)] (by kernel_rfl) ?mono rfl ?steps ?last
  case mono =>
    simp only [List.forall_mem_cons, List.not_mem_nil, false_implies, implies_true, and_true]
    refine ⟨?_, ?_, ?_, ?_, ?_, ?_, ?_, ?_, ?_, ?_⟩
    all_goals first | exact fun _ _ _ _ q => q | exact fun _ _ _ he q => q.ext he
  case steps =>
    refine ⟨?_, ?_, ?_, ?_, ?_, ?_, ?_, ?_, ?_, ?_, trivial⟩
    all_goals
      intro u0 u1 u2 u3 u4 u5 u6 u7 u8 u9 u10 w1 he hk
      simp [KnownD, Oper.looksAt, Op.operands, Call.operands, List.findIdx?_cons, Act.put] at hk
      simp only [Act.put, List.setIfInBounds_toArray, List.set_cons_succ, List.set_cons_zero]
    · have hb := he.block (heap_alloc_new _ _)
      have hc0 := blk_cell hb 0
      have hc1 := blk_cell hb 1
      simp at hc0 hc1
      clear hb
      go_wp2_with fail
      exact ⟨rfl, Ext.refl _, HZ0.out.ext ((Ext.alloc _ _).trans he)⟩
    · have hb := he.block (heap_alloc_new _ _)
      have hc0 := blk_cell hb 0
      have hc1 := blk_cell hb 1
      simp at hc0 hc1
      clear hb
      go_wp2_with fail
      exact ⟨rfl, Ext.refl _, HZ0.out.ext ((Ext.alloc _ _).trans he)⟩
    · have k0 := hk
      have H0 := Lib.hid k0
      clear k0
      go_wp2_with fail
      refine (specBitLen_z L z _ _ H0.out (by omega)).mono ?_
      rintro e w2 ⟨he2, x, rfl, hx⟩
      obtain rfl : x = .int .i64 (blen (z) : Nat) := hx
      go_wp2_with fail
      exact ⟨rfl, he2, rfl⟩
    · have k0 := hk
      obtain rfl : u2 = .int .i64 (blen (z) : Nat) := k0
      go_wp2_with fail
      exact ⟨rfl, Ext.refl _, by show (_ : Value) = _; (first | rfl | (simp)); try rfl⟩
    · have k0 := hk
      obtain rfl : u3 = .int .i64 ((blen (z) : Nat) + 7 : Int) := k0
      go_wp2_with fail
      exact ⟨rfl, Ext.refl _, by show (_ : Value) = _; (exact HQ.out); try rfl⟩
    · obtain ⟨k0, k1⟩ := hk
      obtain rfl : u4 = .int .i64 (nby (z).natAbs : Nat) := k1
      have H0 := Lib.hid k0
      clear k0
      go_wp2_with fail
      refine (specFillBytes_z L z (nby (z).natAbs) _ _ (H0.out) (by omega) HNB.out).mono ?_
      rintro e w2 ⟨he2, x, rfl, hx⟩
      have HX := Lib.hid hx
      clear hx
      go_wp2_with fail
      exact ⟨rfl, he2, HX.out⟩
    · have k0 := hk
      go_wp2_with fail
      exact ⟨rfl, Ext.refl _, k0⟩
    · have k0 := hk
      obtain ⟨s, rfl, hr⟩ := k0
      rw [fbl_fit (lt_nby _)] at hr
      have HR := Lib.hid hr
      clear hr
      go_wp2_with fail
      exact ⟨rfl, Ext.refl _, HR.out⟩
    · have k0 := hk
      obtain ⟨s, rfl, hr⟩ := k0
      have hd : decide ((z).natAbs < 256 ^ nby (z).natAbs) = true := by simpa using lt_nby _
      rw [hd]
      clear hr hd
      go_wp2_with fail
      exact ⟨rfl, Ext.refl _, rfl⟩
    · have k0 := hk
      go_wp2_with fail
      exact ⟨rfl, Ext.refl _, k0⟩
  case last =>
    intro w1 he u0 h0 u1 h1 u2 h2 u3 h3 u4 h4 u5 h5 u6 h6 u7 h7 u8 h8 u9 h9
    obtain rfl : u8 = .bool true := h8
    have hy : IsR8 (beb (nby (z).natAbs) (z).natAbs) u9 w1 := h9
    clear h0 h1 h2 h3 h4 h5 h6 h7 h9
    simp only [LastD, Act.put, List.setIfInBounds_toArray, List.set_cons_succ, List.set_cons_zero]
    have HE := Lib.hid ((Ext.alloc _ _).trans he)
    have HY := Lib.hid hy
    clear he hy
    go_wp2_with fail
    go_ret
    exact ⟨HE.out, _, rfl, HY.out⟩


end Go.Proofs.Ytfpkaamldifkbaa

