/- FnExactBitLen, FnUint64Limits (printed by lawgen.py). -/
import Derived.Test.YtdfknmplpjmemaaBitLen
import Derived.Test.YtdfknmplpjmemaaHelpers
set_option linter.unusedSimpArgs false
set_option linter.unusedVariables false
namespace Go.Proofs.Ytdfknmplpjmemaa
open Go.RowKit

theorem blen_le (z : Int) (n : Nat) : blen z ≤ n ↔ z.natAbs < 2 ^ n := blenN_le_iff _ _

theorem uLimits {a : Int} (h : 0 ≤ a) : decide ((blen a : Int) ≤ 64) = isU a := by
  unfold isU
  rw [Bool.eq_iff_iff]
  have := blen_le a 64
  simp
  omega

set_option maxHeartbeats 1000000 in
theorem bitLen_z (L : Nat) (z : Int) (x0 : Value) (w : World) (hz0 : IsZ (L) (z) x0 w) (hL : L ≤ 17592186044416) :
    Calls Try.prog 16 #[x0] w (ResR (Is (.int .i64 (blen z : Nat))) w) := by
  obtain ⟨n0, a0, l0, c0, rfl⟩ := hz0.form
  have HZ0 := Lib.hid hz0
  clear hz0
  go_enter Try.func16, Try.ntmps16
  go_wp2_with fail
  refine (toImpl_z (L) (z) _ _ ((HZ0.out.ext (Ext.alloc _ _))) (by omega)).mono ?_
  rintro e w1 ⟨he, y1, rfl, hy⟩
  have HB := Lib.hid he
  have HE := Lib.hid ((Ext.alloc _ _).trans he)
  clear he
  have HY1 := Lib.hid hy
  clear hy
  have hcc := fun a v h => Ext.cell HB.out (a := a) (v := v) h
  go_wp2_with fail
  refine (implBitLen_z (L) (z) _ _ (HY1.out.z) (by omega)).mono ?_
  clear hcc
  rintro e w2 ⟨he, y2, rfl, hy⟩
  replace HY1 := Lib.hid (HY1.out.ext he)
  replace HB := Lib.hid (HB.out.trans he)
  replace HE := Lib.hid (HE.out.trans he)
  clear he
  obtain rfl : y2 = .int .i64 (blen (z) : Nat) := hy
  go_wp2_with fail
  go_ret
  exact ⟨HE.out, _, rfl, rfl⟩

end Go.Proofs.Ytdfknmplpjmemaa

