/- The reference: bit, length, BitLen, IsUint64, Uint64, CmpAbs, Cmp, Int64 by values: contracts. -/
import Derived.Test.YtcdkaddgljafhaaWrap
import Derived.Test.YtcdkaddgljafhaaBitMath
set_option linter.unusedSimpArgs false
set_option linter.unusedVariables false
namespace Go.Proofs.Ytcdkaddgljafhaa
open Go.RowKit

theorem bit_any (v : Value) (ws : List Nat) (i x : Nat) (w : World) (h : Rd .u64 w v ws) (hi : i ≤ 9223372036854775807) (hx : bitN (val ws) i = x) :
    Calls Try.prog 76 #[v, .int .i64 i] w fun e w' => e = .returned (.int .u64 x) ∧ w = w' := by
  obtain ⟨y, hy⟩ : ∃ y, ws.getD (i / 64) 0 = y := ⟨_, rfl⟩
  have hyl : y < 18446744073709551616 := by
    rw [← hy]
    by_cases hj : i / 64 < ws.length
    · rw [List.getD_eq_getElem?_getD, List.getElem?_eq_getElem hj]; exact h.1 _ (List.getElem_mem _)
    · simp [Nat.not_lt.1 hj]
  have hval : y / 2 ^ (i % 64) % 2 = x := by rw [← hx, ← word_bit ws h.1 i, hy]
  have H := Lib.hid h
  have HY := Lib.hid hy
  have HV := Lib.hid hval
  have HL := Lib.hid hyl
  clear h hx hy hval hyl
  have h64 : 0 ≤ (i : Int) % 64 := by omega
  have h65 : (i : Int) % 64 < 64 := by omega
  go_enter Try.func76, Try.ntmps76
  go_wp2_with fail
  refine (word_any v ws (i / 64) y _ H.out (by omega) HY.out).mono ?_
  rintro e w1 ⟨rfl, rfl⟩
  go_wp2_with fail
  go_ret
  have e1 : bits BinOp.and IntKind.u64 ((y : Int) / 2 ^ (i % 64)) 1 = (x : Int) := by
    have e2 : ((y : Int) / 2 ^ (i % 64)) = ((y / 2 ^ (i % 64) : Nat) : Int) := by simp
    rw [e2]
    have h1 : y / 2 ^ (i % 64) ≤ y := Nat.div_le_self _ _
    have := bits_and_u64_nat (y / 2 ^ (i % 64)) 1 (Nat.lt_of_le_of_lt h1 HL.out) (by decide)
    rw [Nat.and_one_is_mod, HV.out] at this
    exact this
  rw [e1]
  exact ⟨rfl, rfl⟩

set_option maxHeartbeats 400000 in
theorem length_any (v : Value) (ws : List Nat) (w : World) (h : Rd .u64 w v ws) (hl : ws.length ≤ 17592186044416) :
    Calls Try.prog 59 #[v] w fun e w' => e = .returned (.int .i64 (blenN (val ws) : Nat)) ∧ w = w' := by
  obtain ⟨a, c, rfl⟩ := h.form
  have hv : val ws < 2 ^ (64 * ws.length) := by rw [← pow64]; exact val_lt ws h.1
  have H := Lib.hid h
  have HV := Lib.hid hv
  clear h hv
  generalize hb : blenN (val ws) = b
  have HB := Lib.hid hb
  clear hb
  go_enter Try.func59, Try.ntmps59
  go_wp2_with fail
  go_loop [3] (fun i => ∃ k : Nat, k ≤ 64 * ws.length ∧ i = .int .i64 k ∧ Hid (val ws < 2 ^ k)) (fun i => (intOf i).toNat)
  case atStart => exact ⟨64 * ws.length, Nat.le_refl _, by rw [show ((64 * ws.length : Nat) : Int) = (ws.length : Int) * 64 by omega], HV.out⟩
  case round =>
    obtain ⟨k, hk, rfl, hn⟩ := hrel
    cases k with
    | zero =>
      go_wp2_with fail
      go_ret
      rw [← HB.out, blenN_unique hn.out (.inl rfl)]
      exact ⟨rfl, rfl⟩
    | succ j =>
      obtain ⟨x, hx⟩ : ∃ x, bitN (val ws) j = x := ⟨_, rfl⟩
      have HX := Lib.hid hx
      clear hx
      by_cases h0 : x = 0
      · subst h0
        go_wp2_with fail
        refine (bit_any _ ws j 0 _ H.out (by omega) HX.out).mono ?_
        rintro e w1 ⟨rfl, rfl⟩
        go_wp2_with fail
        go_round
        case rel => exact ⟨j, by omega, by go_num, bit_step hn.out HX.out⟩
        case measure => simp [intOf]
      · have hx1 : ((x : Int) == 0) = false := by simp [h0]
        go_wp2_with fail
        refine (bit_any _ ws j x _ H.out (by omega) HX.out).mono ?_
        rintro e w1 ⟨rfl, rfl⟩
        go_wp2_with fail
        go_ret
        rw [← HB.out, blenN_unique hn.out (.inr (bit_stop (by rw [show j + 1 - 1 = j from rfl, HX.out]; exact h0)))]
        exact ⟨rfl, rfl⟩

/-- The length of an integer's absolute value in bits. -/
def blen (z : Int) : Nat := blenN z.natAbs

theorem specBitLen_z (L : Nat) (z : Int) (x : Value) (w : World) (h : IsZ L z x w) (hL : L ≤ 17592186044416) :
    Calls Try.prog 41 #[x] w (ResR (Is (.int .i64 (blen z : Nat))) w) := by
  obtain ⟨n, s, ws, rfl, hr, hl, rfl⟩ := h
  obtain ⟨a, c, rfl⟩ := hr.form
  have hb : blenN (val ws) = blen (ival n ws) := by rw [blen, ival_abs]
  generalize blen (ival n ws) = b at *
  have HB := Lib.hid hb
  have H := Lib.hid hr
  clear hr hb
  go_enter Try.func41, Try.ntmps41
  go_wp2_with fail
  refine (length_any _ ws _ (H.out.ext (Ext.alloc _ _)) (by omega)).mono ?_
  rw [HB.out]
  rintro e w1 ⟨rfl, rfl⟩
  go_wp2_with fail
  go_ret
  exact ⟨Ext.alloc _ _, _, rfl, rfl⟩

theorem isU_iff (z : Int) : isU z = (decide (0 ≤ sgnZ z) && decide (blen z ≤ 64)) := by
  rw [Bool.eq_iff_iff]
  simp only [isU, decide_eq_true_iff, Bool.and_eq_true, blen, blenN_le_iff]
  have h64 : (2 : Nat) ^ 64 = 18446744073709551616 := by decide
  rw [h64]
  rcases sgnZ_cases z with ⟨h1, h2, h3⟩ | ⟨h1, h3⟩ | ⟨h1, h2, h3⟩ <;> rw [h3] <;> omega

theorem specIsUint64_z (L : Nat) (z : Int) (x : Value) (w : World) (h : IsZ L z x w) (hL : L ≤ 17592186044416) :
    Calls Try.prog 17 #[x] w (ResR (Is (.bool (isU z))) w) := by
  obtain ⟨n, a, l, c, rfl⟩ := h.form
  have hq := isU_iff z
  have H := Lib.hid h
  clear h
  generalize isU z = q at *
  generalize hs : sgnZ z = s at *
  generalize hb : blen z = b at *
  have HS := Lib.hid hs
  have HB := Lib.hid hb
  clear hs hb
  by_cases h0 : 0 ≤ s
  · obtain rfl : q = decide (b ≤ 64) := by rw [hq]; simp [h0]
    clear hq
    go_enter Try.func17, Try.ntmps17
    go_wp2_with fail
    refine (specSign_z L z _ _ (H.out.ext (Ext.alloc _ _)) hL).mono ?_
    rw [HS.out]
    rintro e w1 ⟨he, x, rfl, hx⟩
    obtain rfl : x = .int .i64 s := hx
    have hc := fun a v h => Ext.cell he (a := a) (v := v) h
    have HE := Lib.hid he
    clear he
    go_wp2_with fail
    refine (specBitLen_z L z _ _ (H.out.ext ((Ext.alloc _ _).trans HE.out)) hL).mono ?_
    rw [HB.out]
    rintro e w2 ⟨he, x, rfl, hx⟩
    obtain rfl : x = .int .i64 (b : Nat) := hx
    have HE2 := Lib.hid (((Ext.alloc _ _).trans HE.out).trans he)
    clear he hc
    go_wp2_with fail
    go_ret
    refine ⟨HE2.out, _, rfl, ?_⟩
    show (_ : Value) = _
    simp
    omega
  · obtain rfl : q = false := by rw [hq]; simp [h0]
    clear hq
    have hd : decide (0 ≤ s) = false := by simp [h0]
    clear h0
    go_enter Try.func17, Try.ntmps17
    go_wp2_with fail
    refine (specSign_z L z _ _ (H.out.ext (Ext.alloc _ _)) hL).mono ?_
    rw [HS.out]
    rintro e w1 ⟨he, x, rfl, hx⟩
    obtain rfl : x = .int .i64 s := hx
    have HE := Lib.hid ((Ext.alloc _ _).trans he)
    clear he
    go_wp2_with fail
    go_ret
    exact ⟨HE.out, _, rfl, rfl⟩

theorem specUint64_z (L : Nat) (z : Int) (x : Value) (w : World) (h : IsZ L z x w) (hL : L ≤ 17592186044416) :
    Calls Try.prog 27 #[x] w (ResR (Is (.int .u64 (low z : Nat))) w) := by
  obtain ⟨n, s, ws, rfl, hr, hl, rfl⟩ := h
  obtain ⟨a, c, rfl⟩ := hr.form
  have hb : ws.getD 0 0 = low (ival n ws) := by rw [low_val ws hr.1, low, ival_abs]
  generalize low (ival n ws) = b at *
  have HB := Lib.hid hb
  have H := Lib.hid hr
  clear hr hb
  go_enter Try.func27, Try.ntmps27
  go_wp2_with fail
  refine (word_any _ ws 0 b _ (H.out.ext (Ext.alloc _ _)) (by omega) HB.out).mono ?_
  rintro e w1 ⟨rfl, rfl⟩
  go_wp2_with fail
  go_ret
  exact ⟨Ext.alloc _ _, _, rfl, rfl⟩

theorem specCmpAbs_z (L M : Nat) (a b : Int) (x y : Value) (w : World) (hx : IsZ L a x w) (hy : IsZ M b y w) (hL : L ≤ 17592186044416) (hM : M ≤ 17592186044416) :
    Calls Try.prog 37 #[x, y] w (ResR (Is (.int .i64 (cmpZ a.natAbs b.natAbs))) w) := by
  obtain ⟨n, s, ws, rfl, hr, hl, rfl⟩ := hx
  obtain ⟨m, t, vs, rfl, ht, hl', rfl⟩ := hy
  obtain ⟨a1, c1, rfl⟩ := hr.form
  obtain ⟨a2, c2, rfl⟩ := ht.form
  have hb : cmpW ws vs = cmpZ (ival n ws).natAbs (ival m vs).natAbs := by rw [ival_abs, ival_abs]; rfl
  generalize cmpZ (ival n ws).natAbs (ival m vs).natAbs = q at *
  have HB := Lib.hid hb
  have H := Lib.hid hr
  have H' := Lib.hid ht
  clear hr hb ht
  go_enter Try.func37, Try.ntmps37
  go_wp2_with fail
  refine (compare_any _ _ ws vs _ (H.out.ext ((Ext.alloc _ _).trans (Ext.alloc _ _))) (H'.out.ext ((Ext.alloc _ _).trans (Ext.alloc _ _))) (by omega) (by omega)).mono ?_
  rw [HB.out]
  rintro e w1 ⟨rfl, rfl⟩
  go_wp2_with fail
  go_ret
  exact ⟨(Ext.alloc _ _).trans (Ext.alloc _ _), _, rfl, rfl⟩

theorem cmpZ_lt {a b : Int} (h : a < b) : cmpZ a b = -1 := if_pos h

theorem cmpZ_gt {a b : Int} (h : b < a) : cmpZ a b = 1 := by rw [cmpZ, if_neg (by omega), if_pos h]

theorem cmpZ_eq {a b : Int} (h : a = b) : cmpZ a b = 0 := by rw [cmpZ, if_neg (by omega), if_neg (by omega)]

theorem cmpZ_sgn_lt {a b : Int} (h : sgnZ a < sgnZ b) : cmpZ a b = -1 := by
  rcases sgnZ_cases a with ⟨h1, h2, h3⟩ | ⟨h1, h3⟩ | ⟨h1, h2, h3⟩ <;> rcases sgnZ_cases b with ⟨k1, k2, k3⟩ | ⟨k1, k3⟩ | ⟨k1, k2, k3⟩ <;> rw [h3, k3] at h <;> first | (exact cmpZ_lt (by omega)) | omega

theorem cmpZ_sgn_gt {a b : Int} (h : sgnZ b < sgnZ a) : cmpZ a b = 1 := by
  rcases sgnZ_cases a with ⟨h1, h2, h3⟩ | ⟨h1, h3⟩ | ⟨h1, h2, h3⟩ <;> rcases sgnZ_cases b with ⟨k1, k2, k3⟩ | ⟨k1, k3⟩ | ⟨k1, k2, k3⟩ <;> rw [h3, k3] at h <;> first | (exact cmpZ_gt (by omega)) | omega

theorem cmpZ_sgn_neg {a b : Int} (h : sgnZ a = sgnZ b) (hn : sgnZ a < 0) : cmpZ b.natAbs a.natAbs = cmpZ a b := by
  rcases sgnZ_cases a with ⟨h1, h2, h3⟩ | ⟨h1, h3⟩ | ⟨h1, h2, h3⟩ <;> rcases sgnZ_cases b with ⟨k1, k2, k3⟩ | ⟨k1, k3⟩ | ⟨k1, k2, k3⟩ <;> rw [h3, k3] at h <;> rw [h3] at hn <;> first | omega | skip
  rcases Int.lt_trichotomy a b with q | q | q
  · rw [cmpZ_lt q, cmpZ_lt (by omega)]
  · rw [cmpZ_eq q, cmpZ_eq (by omega)]
  · rw [cmpZ_gt q, cmpZ_gt (by omega)]

theorem cmpZ_sgn_pos {a b : Int} (h : sgnZ a = sgnZ b) (hn : ¬ sgnZ a < 0) : cmpZ a.natAbs b.natAbs = cmpZ a b := by
  have ha : 0 ≤ a := by rcases sgnZ_cases a with ⟨h1, h2, h3⟩ | ⟨h1, h3⟩ | ⟨h1, h2, h3⟩ <;> rw [h3] at hn <;> omega
  have hb : 0 ≤ b := by rw [h] at hn; rcases sgnZ_cases b with ⟨h1, h2, h3⟩ | ⟨h1, h3⟩ | ⟨h1, h2, h3⟩ <;> rw [h3] at hn <;> omega
  rw [Int.natAbs_of_nonneg ha, Int.natAbs_of_nonneg hb]

set_option maxHeartbeats 1000000 in
theorem specCmp_z (L M : Nat) (a b : Int) (x y : Value) (w : World) (hx : IsZ L a x w) (hy : IsZ M b y w) (hL : L ≤ 17592186044416) (hM : M ≤ 17592186044416) :
    Calls Try.prog 52 #[x, y] w (ResR (Is (.int .i64 (cmpZ a b))) w) := by
  obtain ⟨n1, a1, l1, c1, rfl⟩ := hx.form
  obtain ⟨n2, a2, l2, c2, rfl⟩ := hy.form
  have HX := Lib.hid hx
  have HY := Lib.hid hy
  clear hx hy
  have g1 := @cmpZ_sgn_lt a b
  have g2 := @cmpZ_sgn_gt a b
  have g3 := @cmpZ_sgn_neg a b
  have g4 := @cmpZ_sgn_pos a b
  generalize hc : cmpZ a b = c at *
  generalize hs : sgnZ a = s at *
  generalize ht : sgnZ b = t at *
  have HS := Lib.hid hs
  have HT := Lib.hid ht
  have G1 := Lib.hid g1
  have G2 := Lib.hid g2
  have G3 := Lib.hid g3
  have G4 := Lib.hid g4
  clear hs ht g1 g2 g3 g4 hc
  go_enter Try.func52, Try.ntmps52
  go_wp2_with fail
  refine (specSign_z L a _ _ (HX.out.ext ((Ext.alloc _ _).trans (Ext.alloc _ _))) hL).mono ?_
  rw [HS.out]
  rintro e w1 ⟨he, x, rfl, hx⟩
  obtain rfl : x = .int .i64 s := hx
  have hcc := fun a v h => Ext.cell he (a := a) (v := v) h
  have HE := Lib.hid he
  clear he
  go_wp2_with fail
  refine (specSign_z M b _ _ (HY.out.ext (((Ext.alloc _ _).trans (Ext.alloc _ _)).trans HE.out)) hM).mono ?_
  rw [HT.out]
  rintro e w2 ⟨he, x, rfl, hx⟩
  obtain rfl : x = .int .i64 t := hx
  have hE2 : Ext ((w.alloc (.cells #[.bool n1, .slice a1 l1 c1] 29)).alloc (.cells #[.bool n2, .slice a2 l2 c2] 29)) w2 := HE.out.trans he
  clear hcc he
  have hcc := fun a v h => Ext.cell hE2 (a := a) (v := v) h
  have HE2 := Lib.hid (((Ext.alloc _ _).trans (Ext.alloc _ _)).trans hE2)
  clear hE2
  by_cases h1 : s < t
  · obtain rfl : c = -1 := G1.out h1
    go_wp2_with fail
    go_ret
    exact ⟨HE2.out, _, rfl, rfl⟩
  · by_cases h2 : t < s
    · obtain rfl : c = 1 := G2.out h2
      go_wp2_with fail
      go_ret
      exact ⟨HE2.out, _, rfl, rfl⟩
    · obtain rfl : s = t := by omega
      by_cases h3 : s < 0
      · have hc : cmpZ b.natAbs a.natAbs = c := G3.out rfl h3
        have HC := Lib.hid hc
        clear hc
        go_wp2_with fail
        refine (specCmpAbs_z M L b a _ _ _ (HY.out.ext HE2.out) (HX.out.ext HE2.out) hM hL).mono ?_
        rw [HC.out]
        rintro e w3 ⟨he, x, rfl, hx⟩
        obtain rfl : x = .int .i64 c := hx
        have HE3 := Lib.hid (HE2.out.trans he)
        clear he hcc
        go_wp2_with fail
        go_ret
        exact ⟨HE3.out, _, rfl, rfl⟩
      · have hc : cmpZ a.natAbs b.natAbs = c := G4.out rfl (by first | exact h3 | omega)
        have HC := Lib.hid hc
        clear hc
        go_wp2_with fail
        refine (specCmpAbs_z L M a b _ _ _ (HX.out.ext HE2.out) (HY.out.ext HE2.out) hL hM).mono ?_
        rw [HC.out]
        rintro e w3 ⟨he, x, rfl, hx⟩
        obtain rfl : x = .int .i64 c := hx
        have HE3 := Lib.hid (HE2.out.trans he)
        clear he hcc
        go_wp2_with fail
        go_ret
        exact ⟨HE3.out, _, rfl, rfl⟩

end Go.Proofs.Ytcdkaddgljafhaa
