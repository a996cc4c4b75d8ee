/- impl.F(x Number) that call a reading method of the Int: contracts by values (printed by gen3.py). -/
import Derived.Test.YtcdkaddgljafhaaInt64
set_option linter.unusedSimpArgs false
set_option linter.unusedVariables false
namespace Go.Proofs.Ytcdkaddgljafhaa
open Go.RowKit

theorem implSign_z (L : Nat) (z : Int) (x : Value) (w : World) (h : IsZ L z x w) (hL : L ≤ 17592186044416) :
    Calls Try.prog 24 #[x] w (ResR (Is (.int .i64 (sgnZ z))) w) := by
  obtain ⟨n, a, l, c, rfl⟩ := h.form
  have H := Lib.hid h
  clear h
  go_enter Try.func24, Try.ntmps24
  go_wp2_with fail
  refine (integer_z L z _ _ (H.out.ext (Ext.alloc _ _)) hL).mono ?_
  rintro e w1 ⟨he, p, rfl, hp, hI⟩
  have HE := Lib.hid ((Ext.alloc _ _).trans he)
  have HI := Lib.hid hI
  clear he hI
  go_wp2_with fail
  refine (intSign_z L z _ p _ HI.out hL).mono ?_
  rintro e w2 ⟨rfl, rfl⟩
  go_wp2_with fail
  go_ret
  exact ⟨HE.out, _, rfl, rfl⟩

theorem implIsUint64_z (L : Nat) (z : Int) (x : Value) (w : World) (h : IsZ L z x w) (hL : L ≤ 17592186044416) :
    Calls Try.prog 15 #[x] w (ResR (Is (.bool (isU z))) w) := by
  obtain ⟨n, a, l, c, rfl⟩ := h.form
  have H := Lib.hid h
  clear h
  go_enter Try.func15, Try.ntmps15
  go_wp2_with fail
  refine (integer_z L z _ _ (H.out.ext (Ext.alloc _ _)) hL).mono ?_
  rintro e w1 ⟨he, p, rfl, hp, hI⟩
  have HE := Lib.hid ((Ext.alloc _ _).trans he)
  have HI := Lib.hid hI
  clear he hI
  go_wp2_with fail
  refine (intIsUint64_z L z _ p _ HI.out hL).mono ?_
  rintro e w2 ⟨rfl, rfl⟩
  go_wp2_with fail
  go_ret
  exact ⟨HE.out, _, rfl, rfl⟩

theorem implUint64_z (L : Nat) (z : Int) (x : Value) (w : World) (h : IsZ L z x w) (hL : L ≤ 17592186044416) :
    Calls Try.prog 26 #[x] w (ResR (Is (.int .u64 (low z))) w) := by
  obtain ⟨n, a, l, c, rfl⟩ := h.form
  have H := Lib.hid h
  clear h
  go_enter Try.func26, Try.ntmps26
  go_wp2_with fail
  refine (integer_z L z _ _ (H.out.ext (Ext.alloc _ _)) hL).mono ?_
  rintro e w1 ⟨he, p, rfl, hp, hI⟩
  have HE := Lib.hid ((Ext.alloc _ _).trans he)
  have HI := Lib.hid hI
  clear he hI
  go_wp2_with fail
  refine (intUint64_z L z _ p _ HI.out hL).mono ?_
  rintro e w2 ⟨rfl, rfl⟩
  go_wp2_with fail
  go_ret
  exact ⟨HE.out, _, rfl, rfl⟩

theorem implIsInt64_z (L : Nat) (z : Int) (x : Value) (w : World) (h : IsZ L z x w) (hL : L ≤ 17592186044416) :
    Calls Try.prog 31 #[x] w (ResR (Is (.bool (isI z))) w) := by
  obtain ⟨n, a, l, c, rfl⟩ := h.form
  have H := Lib.hid h
  clear h
  go_enter Try.func31, Try.ntmps31
  go_wp2_with fail
  refine (integer_z L z _ _ (H.out.ext (Ext.alloc _ _)) hL).mono ?_
  rintro e w1 ⟨he, p, rfl, hp, hI⟩
  have HE := Lib.hid ((Ext.alloc _ _).trans he)
  have HI := Lib.hid hI
  clear he hI
  go_wp2_with fail
  refine (intIsInt64_z L z _ p _ HI.out hL).mono ?_
  rintro e w2 ⟨rfl, rfl⟩
  go_wp2_with fail
  go_ret
  exact ⟨HE.out, _, rfl, rfl⟩

theorem implInt64_z (L : Nat) (z : Int) (x : Value) (w : World) (h : IsZ L z x w) (hL : L ≤ 17592186044416) (hi : isI z = true) :
    Calls Try.prog 29 #[x] w (ResR (Is (.int .i64 z)) w) := by
  obtain ⟨n, a, l, c, rfl⟩ := h.form
  have H := Lib.hid h
  clear h
  have HHI := Lib.hid hi
  clear hi
  go_enter Try.func29, Try.ntmps29
  go_wp2_with fail
  refine (integer_z L z _ _ (H.out.ext (Ext.alloc _ _)) hL).mono ?_
  rintro e w1 ⟨he, p, rfl, hp, hI⟩
  have HE := Lib.hid ((Ext.alloc _ _).trans he)
  have HI := Lib.hid hI
  clear he hI
  go_wp2_with fail
  refine (intInt64_z L z _ p _ HI.out hL HHI.out).mono ?_
  rintro e w2 ⟨rfl, rfl⟩
  go_wp2_with fail
  go_ret
  exact ⟨HE.out, _, rfl, rfl⟩

end Go.Proofs.Ytcdkaddgljafhaa
