/- The reference: bit, length, BitLen, IsUint64, Uint64, CmpAbs, Cmp, Int64 by values: contracts. -/
import Derived.Test.YtdodcmncdlnceaaDoorWrap
import Derived.Test.YtdodcmncdlnceaaDoorBitMath
set_option linter.unusedSimpArgs false
set_option linter.unusedVariables false
namespace Go.Proofs.YtdodcmncdlnceaaDoor
open Go.RowKit

theorem bit_any (v : Value) (ws : List Nat) (i x : Nat) (w : World) (h : Rd .u64 w v ws) (hi : i ≤ 9223372036854775807) (hx : bitN (val ws) i = x) :
    Calls Tryd.prog 15 #[v, .int .i64 i] w fun e w' => e = .returned (.int .u64 x) ∧ w = w' := by
  obtain ⟨y, hy⟩ : ∃ y, ws.getD (i / 64) 0 = y := ⟨_, rfl⟩
  have hyl : y < 18446744073709551616 := by
    rw [← hy]
    by_cases hj : i / 64 < ws.length
    · rw [List.getD_eq_getElem?_getD, List.getElem?_eq_getElem hj]; exact h.1 _ (List.getElem_mem _)
    · simp [Nat.not_lt.1 hj]
  have hval : y / 2 ^ (i % 64) % 2 = x := by rw [← hx, ← word_bit ws h.1 i, hy]
  have H := Lib.hid h
  have HY := Lib.hid hy
  have HV := Lib.hid hval
  have HL := Lib.hid hyl
  clear h hx hy hval hyl
  have h64 : 0 ≤ (i : Int) % 64 := by omega
  have h65 : (i : Int) % 64 < 64 := by omega
  go_enter Tryd.func15, Tryd.ntmps15
  go_wp2_with fail
  refine (word_any v ws (i / 64) y _ H.out (by omega) HY.out).mono ?_
  rintro e w1 ⟨rfl, rfl⟩
  go_wp2_with fail
  go_ret
  have e1 : bits BinOp.and IntKind.u64 ((y : Int) / 2 ^ (i % 64)) 1 = (x : Int) := by
    have e2 : ((y : Int) / 2 ^ (i % 64)) = ((y / 2 ^ (i % 64) : Nat) : Int) := by simp
    rw [e2]
    have h1 : y / 2 ^ (i % 64) ≤ y := Nat.div_le_self _ _
    have := bits_and_u64_nat (y / 2 ^ (i % 64)) 1 (Nat.lt_of_le_of_lt h1 HL.out) (by decide)
    rw [Nat.and_one_is_mod, HV.out] at this
    exact this
  rw [e1]
  exact ⟨rfl, rfl⟩

/-- The length of an integer's absolute value in bits. -/
def blen (z : Int) : Nat := blenN z.natAbs

theorem isU_iff (z : Int) : isU z = (decide (0 ≤ sgnZ z) && decide (blen z ≤ 64)) := by
  rw [Bool.eq_iff_iff]
  simp only [isU, decide_eq_true_iff, Bool.and_eq_true, blen, blenN_le_iff]
  have h64 : (2 : Nat) ^ 64 = 18446744073709551616 := by decide
  rw [h64]
  rcases sgnZ_cases z with ⟨h1, h2, h3⟩ | ⟨h1, h3⟩ | ⟨h1, h2, h3⟩ <;> rw [h3] <;> omega

theorem cmpZ_lt {a b : Int} (h : a < b) : cmpZ a b = -1 := if_pos h

theorem cmpZ_gt {a b : Int} (h : b < a) : cmpZ a b = 1 := by rw [cmpZ, if_neg (by omega), if_pos h]

theorem cmpZ_eq {a b : Int} (h : a = b) : cmpZ a b = 0 := by rw [cmpZ, if_neg (by omega), if_neg (by omega)]

theorem cmpZ_sgn_lt {a b : Int} (h : sgnZ a < sgnZ b) : cmpZ a b = -1 := by
  rcases sgnZ_cases a with ⟨h1, h2, h3⟩ | ⟨h1, h3⟩ | ⟨h1, h2, h3⟩ <;> rcases sgnZ_cases b with ⟨k1, k2, k3⟩ | ⟨k1, k3⟩ | ⟨k1, k2, k3⟩ <;> rw [h3, k3] at h <;> first | (exact cmpZ_lt (by omega)) | omega

theorem cmpZ_sgn_gt {a b : Int} (h : sgnZ b < sgnZ a) : cmpZ a b = 1 := by
  rcases sgnZ_cases a with ⟨h1, h2, h3⟩ | ⟨h1, h3⟩ | ⟨h1, h2, h3⟩ <;> rcases sgnZ_cases b with ⟨k1, k2, k3⟩ | ⟨k1, k3⟩ | ⟨k1, k2, k3⟩ <;> rw [h3, k3] at h <;> first | (exact cmpZ_gt (by omega)) | omega

theorem cmpZ_sgn_neg {a b : Int} (h : sgnZ a = sgnZ b) (hn : sgnZ a < 0) : cmpZ b.natAbs a.natAbs = cmpZ a b := by
  rcases sgnZ_cases a with ⟨h1, h2, h3⟩ | ⟨h1, h3⟩ | ⟨h1, h2, h3⟩ <;> rcases sgnZ_cases b with ⟨k1, k2, k3⟩ | ⟨k1, k3⟩ | ⟨k1, k2, k3⟩ <;> rw [h3, k3] at h <;> rw [h3] at hn <;> first | omega | skip
  rcases Int.lt_trichotomy a b with q | q | q
  · rw [cmpZ_lt q, cmpZ_lt (by omega)]
  · rw [cmpZ_eq q, cmpZ_eq (by omega)]
  · rw [cmpZ_gt q, cmpZ_gt (by omega)]

theorem cmpZ_sgn_pos {a b : Int} (h : sgnZ a = sgnZ b) (hn : ¬ sgnZ a < 0) : cmpZ a.natAbs b.natAbs = cmpZ a b := by
  have ha : 0 ≤ a := by rcases sgnZ_cases a with ⟨h1, h2, h3⟩ | ⟨h1, h3⟩ | ⟨h1, h2, h3⟩ <;> rw [h3] at hn <;> omega
  have hb : 0 ≤ b := by rw [h] at hn; rcases sgnZ_cases b with ⟨h1, h2, h3⟩ | ⟨h1, h3⟩ | ⟨h1, h2, h3⟩ <;> rw [h3] at hn <;> omega
  rw [Int.natAbs_of_nonneg ha, Int.natAbs_of_nonneg hb]

end Go.Proofs.YtdodcmncdlnceaaDoor
