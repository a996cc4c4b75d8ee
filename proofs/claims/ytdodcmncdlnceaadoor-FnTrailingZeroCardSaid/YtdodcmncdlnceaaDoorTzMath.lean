/- Trailing zeros of integers: plain laws. -/
import Derived.Test.YtdodcmncdlnceaaDoorTz
set_option linter.unusedSimpArgs false
set_option linter.unusedVariables false
namespace Go.Proofs.YtdodcmncdlnceaaDoor
open Go.RowKit

theorem tzI_spec {z : Int} (h : z ≠ 0) : ∃ m : Int, z = 2 ^ tzN z.natAbs * (2 * m + 1) := by
  obtain ⟨k, hk⟩ := tz_spec (v := z.natAbs) (by omega)
  generalize tzN z.natAbs = t at *
  have hz : (z.natAbs : Int) = 2 ^ t * (2 * (k : Int) + 1) := by rw [hk]; push_cast; rfl
  rcases (by omega : z < 0 ∨ 0 ≤ z) with h1 | h1
  · refine ⟨-(k : Int) - 1, ?_⟩
    have : z = -(z.natAbs : Int) := by omega
    rw [this, hz, ← Int.mul_neg]
    congr 1
    omega
  · refine ⟨k, ?_⟩
    have : z = (z.natAbs : Int) := by omega
    rw [this, hz]

theorem tzI_of {z m : Int} {n : Nat} (h : z = 2 ^ n * (2 * m + 1)) : tzN z.natAbs = n := by
  have h1 : z.natAbs = 2 ^ n * (2 * m + 1).natAbs := by
    rw [h, Int.natAbs_mul, Int.natAbs_pow]; rfl
  obtain ⟨k, hk⟩ : ∃ k, (2 * m + 1).natAbs = 2 * k + 1 := ⟨(2 * m + 1).natAbs / 2, by omega⟩
  rw [hk] at h1
  exact tz_of h1

theorem tz_neg (z : Int) : tzN (-z).natAbs = tzN z.natAbs := by rw [Int.natAbs_neg]

theorem tz_shl {z : Int} (h : z ≠ 0) (n : Nat) : tzN (z * 2 ^ n).natAbs = tzN z.natAbs + n := by
  obtain ⟨m, hm⟩ := tzI_spec h
  refine tzI_of (m := m) ?_
  conv => lhs; rw [hm]
  rw [Int.pow_add, Int.mul_assoc, Int.mul_assoc, Int.mul_comm (2 * m + 1)]

theorem tz_odd (z : Int) : tzN (z * 2 ^ 1 + 1).natAbs = 0 := tzI_of (m := z) (by rw [Int.pow_zero]; omega)

theorem tz_eight : tzN (8 : Int).natAbs = 3 := tzI_of (m := 0) (by decide)

theorem tz_add_lt {x y : Int} (hx : x ≠ 0) (hy : y ≠ 0) (h : tzN x.natAbs < tzN y.natAbs) : tzN (x + y).natAbs = tzN x.natAbs := by
  obtain ⟨m, hm⟩ := tzI_spec hx
  obtain ⟨k, hk⟩ := tzI_spec hy
  generalize tzN x.natAbs = a at *
  generalize tzN y.natAbs = b at *
  obtain ⟨d, rfl⟩ : ∃ d, b = a + (d + 1) := ⟨b - a - 1, by omega⟩
  refine tzI_of (m := m + 2 ^ d * (2 * k + 1)) ?_
  rw [hm, hk, Int.pow_add, Int.mul_assoc, ← Int.mul_add]
  congr 1
  rw [Int.pow_succ, Int.mul_comm (2 ^ d) 2, Int.mul_assoc]
  omega

theorem tz_add_ne {x y : Int} (hx : x ≠ 0) (hy : y ≠ 0) (h : tzN x.natAbs ≠ tzN y.natAbs) : tzN (x + y).natAbs = min (tzN x.natAbs) (tzN y.natAbs) := by
  rcases Nat.lt_or_ge (tzN x.natAbs) (tzN y.natAbs) with h1 | h1
  · rw [tz_add_lt hx hy h1, Nat.min_eq_left (by omega)]
  · rw [Int.add_comm, tz_add_lt hy hx (by omega), Nat.min_eq_right (by omega)]

theorem tz_add_eq {x y : Int} (hx : x ≠ 0) (hy : y ≠ 0) (h : tzN x.natAbs = tzN y.natAbs) (hs : x + y ≠ 0) : tzN x.natAbs < tzN (x + y).natAbs := by
  obtain ⟨m, hm⟩ := tzI_spec hx
  obtain ⟨k, hk⟩ := tzI_spec hy
  rw [← h] at hk
  generalize tzN x.natAbs = a at *
  have e : x + y = 2 ^ (a + 1) * (m + k + 1) := by
    rw [hm, hk, Int.pow_succ, ← Int.mul_add, Int.mul_assoc]
    congr 1
    omega
  have hn : m + k + 1 ≠ 0 := fun h0 => hs (by rw [e, h0, Int.mul_zero])
  obtain ⟨j, hj⟩ := tzI_spec hn
  have e2 : x + y = 2 ^ (a + 1 + tzN (m + k + 1).natAbs) * (2 * j + 1) := by
    rw [e, Int.pow_add 2 (a + 1), Int.mul_assoc]
    congr 1
  have := tzI_of e2
  omega

theorem tz_lt {v : Nat} (h : v ≠ 0) : tzN v < blenN v := by
  obtain ⟨m, hm⟩ := tz_spec h
  have h1 := lt_blenN v
  have h2 : 2 ^ tzN v ≤ v := by
    conv => rhs; rw [hm]
    exact Nat.le_mul_of_pos_right _ (by omega)
  exact (Nat.pow_lt_pow_iff_right (by decide : 1 < 2)).1 (Nat.lt_of_le_of_lt h2 h1)

theorem IsZ.tz_le {L : Nat} {z : Int} {x : Value} {w : World} (h : IsZ L z x w) : tzN z.natAbs ≤ 64 * L := by
  obtain ⟨nn, s, ws, _, hr, hl, hz⟩ := h
  have hvz : z.natAbs = val ws := by rw [← hz, ival_abs]
  have h1 : blenN z.natAbs ≤ 64 * ws.length := by rw [blenN_le_iff, hvz, ← pow64]; exact val_lt ws hr.1
  by_cases h0 : z.natAbs = 0
  · rw [h0, tz_zero]; omega
  · have := tz_lt h0; omega

end Go.Proofs.YtdodcmncdlnceaaDoor
