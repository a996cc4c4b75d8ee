/- Walks of FnExactSetUint64, FnExactSetBits (printed by lawgen.py). -/
import Derived.Test.YtcdkaddgljafhaaSetU
import Derived.Test.YtcdkaddgljafhaaSame
set_option linter.unusedSimpArgs false
set_option linter.unusedVariables false
namespace Go.Proofs.Ytcdkaddgljafhaa
open Go.RowKit

set_option maxHeartbeats 1000000 in
theorem fnExactSetUint64_nat (x : Nat) (w : World) (hx : x < 18446744073709551616) :
    Calls Try.prog 4 #[.int .u64 (x : Nat)] w (ValR (.bool true) w) := by
  have HX := Lib.hid hx
  clear hx
  go_enter Try.func4, Try.ntmps4
  have HE := Lib.hid (Ext.refl w)
  go_wp2_with fail
  refine (implSetUint64_z x _ HX.out).mono ?_
  rintro e w1 ⟨he, y1, rfl, hy⟩
  replace HE := Lib.hid (HE.out.trans he)
  clear he
  have HY1 := Lib.hid hy
  clear hy
  go_wp2_with fail
  refine (fromImpl_z (1) ((x : Int)) _ _ HY1.out).mono ?_
  rintro e w2 ⟨he, y2, rfl, hy⟩
  replace HY1 := Lib.hid (HY1.out.ext he)
  replace HE := Lib.hid (HE.out.trans he)
  clear he
  have HY2 := Lib.hid hy
  clear hy
  go_wp2_with fail
  refine (fromUint_z x _ HX.out).mono ?_
  rintro e w3 ⟨he, y3, rfl, hy⟩
  replace HY1 := Lib.hid (HY1.out.ext he)
  replace HY2 := Lib.hid (HY2.out.ext he)
  replace HE := Lib.hid (HE.out.trans he)
  clear he
  have HY3 := Lib.hid hy
  clear hy
  go_wp2_with fail
  refine (fromSpec_z (1) ((x : Int)) _ _ (HY3.out.w)).mono ?_
  rintro e w4 ⟨he, y4, rfl, hy⟩
  replace HY1 := Lib.hid (HY1.out.ext he)
  replace HY2 := Lib.hid (HY2.out.ext he)
  replace HY3 := Lib.hid (HY3.out.ext he)
  replace HE := Lib.hid (HE.out.trans he)
  clear he
  have HY4 := Lib.hid hy
  clear hy
  go_wp2_with fail
  refine (same_z (1) (1) ((x : Int)) ((x : Int)) _ _ _ (HY2.out.z) (HY4.out.z) (by omega) (by omega)).mono ?_
  rintro e w5 ⟨he, y5, rfl, hy⟩
  replace HY1 := Lib.hid (HY1.out.ext he)
  replace HY2 := Lib.hid (HY2.out.ext he)
  replace HY3 := Lib.hid (HY3.out.ext he)
  replace HY4 := Lib.hid (HY4.out.ext he)
  replace HE := Lib.hid (HE.out.trans he)
  clear he
  obtain rfl : y5 = .bool true := hy.trans (by simp)
  go_wp2_with fail
  go_ret
  exact ⟨HE.out, rfl⟩

theorem fnExactSetUint64_walk (x : Int) (w : World) (hx : (Lit.int .u64 x).wf = true) :
    Calls Try.prog 4 #[.int .u64 x] w (ValR (.bool true) w) := by
  have h : 0 ≤ x ∧ x < 18446744073709551616 := by
    have : 0 ≤ x ∧ x ≤ 18446744073709551615 := by simpa [Lit.wf, IntKind.min, IntKind.max, IntKind.signed, IntKind.bits] using hx
    omega
  obtain ⟨n, rfl⟩ := Int.eq_ofNat_of_zero_le h.1
  exact fnExactSetUint64_nat n w (by omega)

set_option maxHeartbeats 1000000 in
theorem fnExactSetBits_walk (v : Value) (ws : List Nat) (w : World) (hr : Rd .u64 w v ws) (hl : ws.length ≤ 17592186043904) :
    Calls Try.prog 10 #[v] w (ValR (.bool true) w) := by
  obtain ⟨a, c, rfl⟩ := hr.form
  have HR := Lib.hid hr
  clear hr
  go_enter Try.func10, Try.ntmps10
  have HE := Lib.hid (Ext.refl w)

  have HR0 := Lib.hid HR.out
  go_wp2_with (at_builtin; refine wpList_copy_words (k := .u64) (bytes := 8) rfl (.tmp 3) (.tmp 4) 22 rfl 38 Try.underlying22 infoUint w.heap.size w.heap.size rfl (heap_alloc_new _ _) (Nat.le_refl _) _ rfl ws ?r1 ?r2 ?r3 ?_)
  case r1 => exact HR.out.ext (Ext.alloc _ _)
  case r2 => omega
  case r3 => omega
  intro v' w0 ho he
  replace HR := Lib.hid (HR.out.ext ((Ext.alloc _ _).trans he))
  replace HE := Lib.hid ((HE.out.trans (Ext.alloc _ _)).trans he)
  have HC : Hid (Rd .u64 w0 v' ws) := ho.read
  clear he ho HR0
  go_wp2_with fail
  refine (implSetBits_z ws _ _ HC.out (by omega)).mono ?_
  rintro e w1 ⟨he, y1, rfl, hy⟩
  replace HR := Lib.hid (HR.out.ext he)
  replace HC := Lib.hid (HC.out.ext he)
  replace HE := Lib.hid (HE.out.trans he)
  clear he
  have HY1 := Lib.hid hy
  clear hy
  go_wp2_with fail
  refine (fromImpl_z (ws.length) ((val ws : Int)) _ _ HY1.out).mono ?_
  rintro e w2 ⟨he, y2, rfl, hy⟩
  replace HR := Lib.hid (HR.out.ext he)
  replace HC := Lib.hid (HC.out.ext he)
  replace HY1 := Lib.hid (HY1.out.ext he)
  replace HE := Lib.hid (HE.out.trans he)
  clear he
  have HY2 := Lib.hid hy
  clear hy
  go_wp2_with fail
  refine (specSetBits_z ws _ _ HR.out (by omega)).mono ?_
  rintro e w3 ⟨he, y3, rfl, hy⟩
  replace HR := Lib.hid (HR.out.ext he)
  replace HC := Lib.hid (HC.out.ext he)
  replace HY1 := Lib.hid (HY1.out.ext he)
  replace HY2 := Lib.hid (HY2.out.ext he)
  replace HE := Lib.hid (HE.out.trans he)
  clear he
  have HY3 := Lib.hid hy
  clear hy
  go_wp2_with fail
  refine (fromSpec_z (ws.length) ((val ws : Int)) _ _ (HY3.out.w)).mono ?_
  rintro e w4 ⟨he, y4, rfl, hy⟩
  replace HR := Lib.hid (HR.out.ext he)
  replace HC := Lib.hid (HC.out.ext he)
  replace HY1 := Lib.hid (HY1.out.ext he)
  replace HY2 := Lib.hid (HY2.out.ext he)
  replace HY3 := Lib.hid (HY3.out.ext he)
  replace HE := Lib.hid (HE.out.trans he)
  clear he
  have HY4 := Lib.hid hy
  clear hy
  go_wp2_with fail
  refine (same_z (ws.length) (ws.length) ((val ws : Int)) ((val ws : Int)) _ _ _ (HY2.out.z) (HY4.out.z) (by omega) (by omega)).mono ?_
  rintro e w5 ⟨he, y5, rfl, hy⟩
  replace HR := Lib.hid (HR.out.ext he)
  replace HC := Lib.hid (HC.out.ext he)
  replace HY1 := Lib.hid (HY1.out.ext he)
  replace HY2 := Lib.hid (HY2.out.ext he)
  replace HY3 := Lib.hid (HY3.out.ext he)
  replace HY4 := Lib.hid (HY4.out.ext he)
  replace HE := Lib.hid (HE.out.trans he)
  clear he
  obtain rfl : y5 = .bool true := hy.trans (by simp)
  go_wp2_with fail
  go_ret
  exact ⟨HE.out, rfl⟩

end Go.Proofs.Ytcdkaddgljafhaa

