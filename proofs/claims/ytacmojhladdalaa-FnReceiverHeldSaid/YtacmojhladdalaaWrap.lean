/- impl.F(x Number) that call a reading method of the Int: contracts by values (printed by gen3.py). -/
import Derived.Test.YtacmojhladdalaaInt64
set_option linter.unusedSimpArgs false
set_option linter.unusedVariables false
namespace Go.Proofs.Ytacmojhladdalaa
open Go.RowKit

theorem implSign_z (L : Nat) (z : Int) (x : Value) (w : World) (h : IsZ L z x w) (hL : L ≤ 17592186044416) :
    Calls Try.prog 50 #[x] w (ResR (Is (.int .i64 (sgnZ z))) w) := by
  obtain ⟨n, a, l, c, rfl⟩ := h.form
  have H := Lib.hid h
  clear h
  go_enter Try.func50, Try.ntmps50
  go_wp2_with fail
  refine (integer_z L z _ _ (H.out.ext (Ext.alloc _ _)) hL).mono ?_
  rintro e w1 ⟨he, p, rfl, hp, hI⟩
  have HE := Lib.hid ((Ext.alloc _ _).trans he)
  have HI := Lib.hid hI
  clear he hI
  go_wp2_with fail
  refine (intSign_z L z _ p _ HI.out hL).mono ?_
  rintro e w2 ⟨rfl, rfl⟩
  go_wp2_with fail
  go_ret
  exact ⟨HE.out, _, rfl, rfl⟩

end Go.Proofs.Ytacmojhladdalaa
