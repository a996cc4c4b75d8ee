/- The reference: bit, length, BitLen, IsUint64, Uint64, CmpAbs, Cmp, Int64 by values: contracts. -/
import Derived.Test.YtgeddjobgokfaaaWrap
import Derived.Test.YtgeddjobgokfaaaBitMath
set_option linter.unusedSimpArgs false
set_option linter.unusedVariables false
namespace Go.Proofs.Ytgeddjobgokfaaa
open Go.RowKit

/-- The length of an integer's absolute value in bits. -/
def blen (z : Int) : Nat := blenN z.natAbs

theorem isU_iff (z : Int) : isU z = (decide (0 ≤ sgnZ z) && decide (blen z ≤ 64)) := by
  rw [Bool.eq_iff_iff]
  simp only [isU, decide_eq_true_iff, Bool.and_eq_true, blen, blenN_le_iff]
  have h64 : (2 : Nat) ^ 64 = 18446744073709551616 := by decide
  rw [h64]
  rcases sgnZ_cases z with ⟨h1, h2, h3⟩ | ⟨h1, h3⟩ | ⟨h1, h2, h3⟩ <;> rw [h3] <;> omega

theorem specCmpAbs_z (L M : Nat) (a b : Int) (x y : Value) (w : World) (hx : IsZ L a x w) (hy : IsZ M b y w) (hL : L ≤ 17592186044416) (hM : M ≤ 17592186044416) :
    Calls Try.prog 51 #[x, y] w (ResR (Is (.int .i64 (cmpZ a.natAbs b.natAbs))) w) := by
  obtain ⟨n, s, ws, rfl, hr, hl, rfl⟩ := hx
  obtain ⟨m, t, vs, rfl, ht, hl', rfl⟩ := hy
  obtain ⟨a1, c1, rfl⟩ := hr.form
  obtain ⟨a2, c2, rfl⟩ := ht.form
  have hb : cmpW ws vs = cmpZ (ival n ws).natAbs (ival m vs).natAbs := by rw [ival_abs, ival_abs]; rfl
  generalize cmpZ (ival n ws).natAbs (ival m vs).natAbs = q at *
  have HB := Lib.hid hb
  have H := Lib.hid hr
  have H' := Lib.hid ht
  clear hr hb ht
  go_enter Try.func51, Try.ntmps51
  go_wp2_with fail
  refine (compare_any _ _ ws vs _ (H.out.ext ((Ext.alloc _ _).trans (Ext.alloc _ _))) (H'.out.ext ((Ext.alloc _ _).trans (Ext.alloc _ _))) (by omega) (by omega)).mono ?_
  rw [HB.out]
  rintro e w1 ⟨rfl, rfl⟩
  go_wp2_with fail
  go_ret
  exact ⟨(Ext.alloc _ _).trans (Ext.alloc _ _), _, rfl, rfl⟩

theorem cmpZ_lt {a b : Int} (h : a < b) : cmpZ a b = -1 := if_pos h

theorem cmpZ_gt {a b : Int} (h : b < a) : cmpZ a b = 1 := by rw [cmpZ, if_neg (by omega), if_pos h]

theorem cmpZ_eq {a b : Int} (h : a = b) : cmpZ a b = 0 := by rw [cmpZ, if_neg (by omega), if_neg (by omega)]

theorem cmpZ_sgn_lt {a b : Int} (h : sgnZ a < sgnZ b) : cmpZ a b = -1 := by
  rcases sgnZ_cases a with ⟨h1, h2, h3⟩ | ⟨h1, h3⟩ | ⟨h1, h2, h3⟩ <;> rcases sgnZ_cases b with ⟨k1, k2, k3⟩ | ⟨k1, k3⟩ | ⟨k1, k2, k3⟩ <;> rw [h3, k3] at h <;> first | (exact cmpZ_lt (by omega)) | omega

theorem cmpZ_sgn_gt {a b : Int} (h : sgnZ b < sgnZ a) : cmpZ a b = 1 := by
  rcases sgnZ_cases a with ⟨h1, h2, h3⟩ | ⟨h1, h3⟩ | ⟨h1, h2, h3⟩ <;> rcases sgnZ_cases b with ⟨k1, k2, k3⟩ | ⟨k1, k3⟩ | ⟨k1, k2, k3⟩ <;> rw [h3, k3] at h <;> first | (exact cmpZ_gt (by omega)) | omega

theorem cmpZ_sgn_neg {a b : Int} (h : sgnZ a = sgnZ b) (hn : sgnZ a < 0) : cmpZ b.natAbs a.natAbs = cmpZ a b := by
  rcases sgnZ_cases a with ⟨h1, h2, h3⟩ | ⟨h1, h3⟩ | ⟨h1, h2, h3⟩ <;> rcases sgnZ_cases b with ⟨k1, k2, k3⟩ | ⟨k1, k3⟩ | ⟨k1, k2, k3⟩ <;> rw [h3, k3] at h <;> rw [h3] at hn <;> first | omega | skip
  rcases Int.lt_trichotomy a b with q | q | q
  · rw [cmpZ_lt q, cmpZ_lt (by omega)]
  · rw [cmpZ_eq q, cmpZ_eq (by omega)]
  · rw [cmpZ_gt q, cmpZ_gt (by omega)]

theorem cmpZ_sgn_pos {a b : Int} (h : sgnZ a = sgnZ b) (hn : ¬ sgnZ a < 0) : cmpZ a.natAbs b.natAbs = cmpZ a b := by
  have ha : 0 ≤ a := by rcases sgnZ_cases a with ⟨h1, h2, h3⟩ | ⟨h1, h3⟩ | ⟨h1, h2, h3⟩ <;> rw [h3] at hn <;> omega
  have hb : 0 ≤ b := by rw [h] at hn; rcases sgnZ_cases b with ⟨h1, h2, h3⟩ | ⟨h1, h3⟩ | ⟨h1, h2, h3⟩ <;> rw [h3] at hn <;> omega
  rw [Int.natAbs_of_nonneg ha, Int.natAbs_of_nonneg hb]

set_option maxHeartbeats 1000000 in
theorem specCmp_z (L M : Nat) (a b : Int) (x y : Value) (w : World) (hx : IsZ L a x w) (hy : IsZ M b y w) (hL : L ≤ 17592186044416) (hM : M ≤ 17592186044416) :
    Calls Try.prog 26 #[x, y] w (ResR (Is (.int .i64 (cmpZ a b))) w) := by
  obtain ⟨n1, a1, l1, c1, rfl⟩ := hx.form
  obtain ⟨n2, a2, l2, c2, rfl⟩ := hy.form
  have HX := Lib.hid hx
  have HY := Lib.hid hy
  clear hx hy
  have g1 := @cmpZ_sgn_lt a b
  have g2 := @cmpZ_sgn_gt a b
  have g3 := @cmpZ_sgn_neg a b
  have g4 := @cmpZ_sgn_pos a b
  generalize hc : cmpZ a b = c at *
  generalize hs : sgnZ a = s at *
  generalize ht : sgnZ b = t at *
  have HS := Lib.hid hs
  have HT := Lib.hid ht
  have G1 := Lib.hid g1
  have G2 := Lib.hid g2
  have G3 := Lib.hid g3
  have G4 := Lib.hid g4
  clear hs ht g1 g2 g3 g4 hc
  go_enter Try.func26, Try.ntmps26
  go_wp2_with fail
  refine (specSign_z L a _ _ (HX.out.ext ((Ext.alloc _ _).trans (Ext.alloc _ _))) hL).mono ?_
  rw [HS.out]
  rintro e w1 ⟨he, x, rfl, hx⟩
  obtain rfl : x = .int .i64 s := hx
  have hcc := fun a v h => Ext.cell he (a := a) (v := v) h
  have HE := Lib.hid he
  clear he
  go_wp2_with fail
  refine (specSign_z M b _ _ (HY.out.ext (((Ext.alloc _ _).trans (Ext.alloc _ _)).trans HE.out)) hM).mono ?_
  rw [HT.out]
  rintro e w2 ⟨he, x, rfl, hx⟩
  obtain rfl : x = .int .i64 t := hx
  have hE2 : Ext ((w.alloc (.cells #[.bool n1, .slice a1 l1 c1] 26)).alloc (.cells #[.bool n2, .slice a2 l2 c2] 26)) w2 := HE.out.trans he
  clear hcc he
  have hcc := fun a v h => Ext.cell hE2 (a := a) (v := v) h
  have HE2 := Lib.hid (((Ext.alloc _ _).trans (Ext.alloc _ _)).trans hE2)
  clear hE2
  by_cases h1 : s < t
  · obtain rfl : c = -1 := G1.out h1
    go_wp2_with fail
    go_ret
    exact ⟨HE2.out, _, rfl, rfl⟩
  · by_cases h2 : t < s
    · obtain rfl : c = 1 := G2.out h2
      go_wp2_with fail
      go_ret
      exact ⟨HE2.out, _, rfl, rfl⟩
    · obtain rfl : s = t := by omega
      by_cases h3 : s < 0
      · have hc : cmpZ b.natAbs a.natAbs = c := G3.out rfl h3
        have HC := Lib.hid hc
        clear hc
        go_wp2_with fail
        refine (specCmpAbs_z M L b a _ _ _ (HY.out.ext HE2.out) (HX.out.ext HE2.out) hM hL).mono ?_
        rw [HC.out]
        rintro e w3 ⟨he, x, rfl, hx⟩
        obtain rfl : x = .int .i64 c := hx
        have HE3 := Lib.hid (HE2.out.trans he)
        clear he hcc
        go_wp2_with fail
        go_ret
        exact ⟨HE3.out, _, rfl, rfl⟩
      · have hc : cmpZ a.natAbs b.natAbs = c := G4.out rfl (by first | exact h3 | omega)
        have HC := Lib.hid hc
        clear hc
        go_wp2_with fail
        refine (specCmpAbs_z L M a b _ _ _ (HX.out.ext HE2.out) (HY.out.ext HE2.out) hL hM).mono ?_
        rw [HC.out]
        rintro e w3 ⟨he, x, rfl, hx⟩
        obtain rfl : x = .int .i64 c := hx
        have HE3 := Lib.hid (HE2.out.trans he)
        clear he hcc
        go_wp2_with fail
        go_ret
        exact ⟨HE3.out, _, rfl, rfl⟩

end Go.Proofs.Ytgeddjobgokfaaa
