/- The reference: Int64, IsInt64 by values: contracts. -/
import Derived.Test.YtcdkaddgljafhaaBits
set_option linter.unusedSimpArgs false
set_option linter.unusedVariables false
namespace Go.Proofs.Ytcdkaddgljafhaa
open Go.RowKit

theorem specInt64_z (L : Nat) (z : Int) (x : Value) (w : World) (h : IsZ L z x w) (hL : L ≤ 17592186044416) (hi : isI z = true) :
    Calls Try.prog 30 #[x] w (ResR (Is (.int .i64 z)) w) := by
  have HZ := Lib.hid h
  obtain ⟨n, s, ws, rfl, hr, hl, hz⟩ := h
  obtain ⟨a, c, rfl⟩ := hr.form
  obtain ⟨b, hb, hlow⟩ : ∃ b, ws.getD 0 0 = b ∧ low z = b := ⟨low z, by rw [low_val ws hr.1, low, ← hz, ival_abs], rfl⟩
  have hbd := of_decide_eq_true hi
  have H := Lib.hid hr
  have HB := Lib.hid hb
  have HLOW := Lib.hid hlow
  have HBD := Lib.hid hbd
  clear hr hb hlow hbd hi hz
  generalize hs : sgnZ z = sg
  have HS := Lib.hid hs
  clear hs
  by_cases h0 : sg < 0
  all_goals
    go_enter Try.func30, Try.ntmps30
    go_wp2_with fail
    refine (word_any _ ws 0 b _ (H.out.ext (Ext.alloc _ _)) (by omega) HB.out).mono ?_
    rintro e w1 ⟨rfl, rfl⟩
    go_wp2_with fail
    refine (specSign_z L z _ _ (HZ.out.ext (Ext.alloc _ _)) hL).mono ?_
    rw [HS.out]
    rintro e w1 ⟨he, x, rfl, hx⟩
    obtain rfl : x = .int .i64 sg := hx
    have HE := Lib.hid ((Ext.alloc _ _).trans he)
    clear he
    go_wp2_with fail
    go_ret
    refine ⟨HE.out, _, rfl, ?_⟩
    have hbd := HBD.out
    have hx := HLOW.out
    rw [low_eq (by omega)] at hx
    have hsg := HS.out
    have h3 := sgnZ_cases z
    rw [hsg] at h3
    show (_ : Value) = _
  · refine congrArg (Value.int .i64) (Eq.symm ?_ : _ = z)
    have hz : z < 0 := by omega
    by_cases h1 : z = -9223372036854775808
    · obtain rfl : b = 9223372036854775808 := by omega
      rw [h1]; unfold wrap64; omega
    · rw [wrap_small b (by omega) (by omega), wrap_small _ (by omega) (by omega)]; omega
  · refine congrArg (Value.int .i64) (Eq.symm ?_ : _ = z)
    rw [wrap_small b (by omega) (by omega)]; omega

def c63 : Nat := 9223372036854775808

def c62 : Nat := 9223372036854775807

end Go.Proofs.Ytcdkaddgljafhaa
