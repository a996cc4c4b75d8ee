/- The reference: bit, length, BitLen, IsUint64, Uint64, CmpAbs, Cmp, Int64 by values: contracts. -/
import Derived.Test.YtacmojhladdalaaWrap
import Derived.Test.YtacmojhladdalaaBitMath
set_option linter.unusedSimpArgs false
set_option linter.unusedVariables false
namespace Go.Proofs.Ytacmojhladdalaa
open Go.RowKit

/-- The length of an integer's absolute value in bits. -/
def blen (z : Int) : Nat := blenN z.natAbs

theorem isU_iff (z : Int) : isU z = (decide (0 ≤ sgnZ z) && decide (blen z ≤ 64)) := by
  rw [Bool.eq_iff_iff]
  simp only [isU, decide_eq_true_iff, Bool.and_eq_true, blen, blenN_le_iff]
  have h64 : (2 : Nat) ^ 64 = 18446744073709551616 := by decide
  rw [h64]
  rcases sgnZ_cases z with ⟨h1, h2, h3⟩ | ⟨h1, h3⟩ | ⟨h1, h2, h3⟩ <;> rw [h3] <;> omega

theorem specCmpAbs_z (L M : Nat) (a b : Int) (x y : Value) (w : World) (hx : IsZ L a x w) (hy : IsZ M b y w) (hL : L ≤ 17592186044416) (hM : M ≤ 17592186044416) :
    Calls Try.prog 39 #[x, y] w (ResR (Is (.int .i64 (cmpZ a.natAbs b.natAbs))) w) := by
  obtain ⟨n, s, ws, rfl, hr, hl, rfl⟩ := hx
  obtain ⟨m, t, vs, rfl, ht, hl', rfl⟩ := hy
  obtain ⟨a1, c1, rfl⟩ := hr.form
  obtain ⟨a2, c2, rfl⟩ := ht.form
  have hb : cmpW ws vs = cmpZ (ival n ws).natAbs (ival m vs).natAbs := by rw [ival_abs, ival_abs]; rfl
  generalize cmpZ (ival n ws).natAbs (ival m vs).natAbs = q at *
  have HB := Lib.hid hb
  have H := Lib.hid hr
  have H' := Lib.hid ht
  clear hr hb ht
  go_enter Try.func39, Try.ntmps39
  go_wp2_with fail
  refine (compare_any _ _ ws vs _ (H.out.ext ((Ext.alloc _ _).trans (Ext.alloc _ _))) (H'.out.ext ((Ext.alloc _ _).trans (Ext.alloc _ _))) (by omega) (by omega)).mono ?_
  rw [HB.out]
  rintro e w1 ⟨rfl, rfl⟩
  go_wp2_with fail
  go_ret
  exact ⟨(Ext.alloc _ _).trans (Ext.alloc _ _), _, rfl, rfl⟩

theorem cmpZ_lt {a b : Int} (h : a < b) : cmpZ a b = -1 := if_pos h

theorem cmpZ_gt {a b : Int} (h : b < a) : cmpZ a b = 1 := by rw [cmpZ, if_neg (by omega), if_pos h]

theorem cmpZ_eq {a b : Int} (h : a = b) : cmpZ a b = 0 := by rw [cmpZ, if_neg (by omega), if_neg (by omega)]

theorem cmpZ_sgn_lt {a b : Int} (h : sgnZ a < sgnZ b) : cmpZ a b = -1 := by
  rcases sgnZ_cases a with ⟨h1, h2, h3⟩ | ⟨h1, h3⟩ | ⟨h1, h2, h3⟩ <;> rcases sgnZ_cases b with ⟨k1, k2, k3⟩ | ⟨k1, k3⟩ | ⟨k1, k2, k3⟩ <;> rw [h3, k3] at h <;> first | (exact cmpZ_lt (by omega)) | omega

theorem cmpZ_sgn_gt {a b : Int} (h : sgnZ b < sgnZ a) : cmpZ a b = 1 := by
  rcases sgnZ_cases a with ⟨h1, h2, h3⟩ | ⟨h1, h3⟩ | ⟨h1, h2, h3⟩ <;> rcases sgnZ_cases b with ⟨k1, k2, k3⟩ | ⟨k1, k3⟩ | ⟨k1, k2, k3⟩ <;> rw [h3, k3] at h <;> first | (exact cmpZ_gt (by omega)) | omega

theorem cmpZ_sgn_neg {a b : Int} (h : sgnZ a = sgnZ b) (hn : sgnZ a < 0) : cmpZ b.natAbs a.natAbs = cmpZ a b := by
  rcases sgnZ_cases a with ⟨h1, h2, h3⟩ | ⟨h1, h3⟩ | ⟨h1, h2, h3⟩ <;> rcases sgnZ_cases b with ⟨k1, k2, k3⟩ | ⟨k1, k3⟩ | ⟨k1, k2, k3⟩ <;> rw [h3, k3] at h <;> rw [h3] at hn <;> first | omega | skip
  rcases Int.lt_trichotomy a b with q | q | q
  · rw [cmpZ_lt q, cmpZ_lt (by omega)]
  · rw [cmpZ_eq q, cmpZ_eq (by omega)]
  · rw [cmpZ_gt q, cmpZ_gt (by omega)]

theorem cmpZ_sgn_pos {a b : Int} (h : sgnZ a = sgnZ b) (hn : ¬ sgnZ a < 0) : cmpZ a.natAbs b.natAbs = cmpZ a b := by
  have ha : 0 ≤ a := by rcases sgnZ_cases a with ⟨h1, h2, h3⟩ | ⟨h1, h3⟩ | ⟨h1, h2, h3⟩ <;> rw [h3] at hn <;> omega
  have hb : 0 ≤ b := by rw [h] at hn; rcases sgnZ_cases b with ⟨h1, h2, h3⟩ | ⟨h1, h3⟩ | ⟨h1, h2, h3⟩ <;> rw [h3] at hn <;> omega
  rw [Int.natAbs_of_nonneg ha, Int.natAbs_of_nonneg hb]

end Go.Proofs.Ytacmojhladdalaa
