/- low64, IsUint64, Uint64, IsInt64, Int64 of an Int by its value: contracts. -/
import Derived.Test.YtdfknmplpjmemaaLev
set_option linter.unusedSimpArgs false
set_option linter.unusedVariables false
namespace Go.Proofs.Ytdfknmplpjmemaa
open Go.RowKit

theorem low64_any (v : Value) (ws : List Nat) (x : Nat) (w : World) (h : Rd .u64 w v ws) (hx : ws.getD 0 0 = x) :
    Calls Try.prog 72 #[v] w fun e w' => e = .returned (.int .u64 x) ∧ w = w' := by
  obtain ⟨_, a, cap, rfl, hlc, hcap, hnil, hcells⟩ := h
  by_cases hlt : 0 < ws.length
  · obtain ⟨b, off, rfl, hc⟩ := hcells 0 hlt
    rw [hx] at hc
    simp only [Nat.add_zero] at hc
    clear hcells hnil hx
    go_enter Try.func72, Try.ntmps72
    go_wp2
    go_ret
    exact ⟨rfl, rfl⟩
  · obtain rfl : x = 0 := by rw [← hx]; simp [Nat.not_lt.1 hlt]
    clear hcells hnil hx
    go_enter Try.func72, Try.ntmps72
    go_wp2
    go_ret
    exact ⟨rfl, rfl⟩

theorem low_val (ws : List Nat) (h : ∀ x ∈ ws, x < 18446744073709551616) : ws.getD 0 0 = val ws % 18446744073709551616 := by
  cases ws with
  | nil => rfl
  | cons x ws => have := h x (by simp); simp only [val, List.getD_cons_zero]; omega

theorem len_le_one {ws : List Nat} (hn : norm ws = ws) (h : ∀ x ∈ ws, x < 18446744073709551616) : ws.length ≤ 1 ↔ val ws < 18446744073709551616 := by
  constructor
  · intro hl
    match ws, hl with
    | [], _ => simp [val]
    | [x], _ => have := h x (by simp); simp only [val]; omega
  · intro hv
    rcases Nat.lt_or_ge 1 ws.length with h1 | h1
    · have hne : ws ≠ [] := by intro e; subst e; simp at h1
      have := norm_last hn hne
      have h2 : 18446744073709551616 ^ 1 ≤ 18446744073709551616 ^ (ws.length - 1) := Nat.pow_le_pow_right (by decide) (by omega)
      omega
    · exact h1

def isU (z : Int) : Bool := decide (0 ≤ z ∧ z < 18446744073709551616)

def low (z : Int) : Nat := z.natAbs % 18446744073709551616

theorem intIsUint64_z (L : Nat) (z : Int) (base p : Nat) (w : World) (h : IntZ L z w base p) (hL : L ≤ 17592186044416) :
    Calls Try.prog 63 #[.pointer (some ⟨p, 0, none⟩)] w fun e w' => e = .returned (.bool (isU z)) ∧ w = w' := by
  obtain ⟨a, c, ws, hp, ho, hn, hv, hl⟩ := h.low
  have hlen := len_le_one hn ho.1
  have hq : isU z = (!decide (z < 0) && decide (ws.length ≤ 1)) := by
    unfold isU
    rw [Bool.eq_iff_iff]
    simp only [decide_eq_true_iff, Bool.and_eq_true, Bool.not_eq_true', decide_eq_false_iff_not, hlen, hv]
    omega
  rw [hq]
  have c0 := blk_cell hp 0
  have c1 := blk_cell hp 1
  simp at c0 c1
  generalize decide (z < 0) = neg at *
  clear hp ho hn hv hq hlen h
  by_cases h1 : ws.length ≤ 1
  all_goals
    cases neg
    all_goals
      go_enter Try.func63, Try.ntmps63
      go_wp2
      go_ret
      refine ⟨?_, rfl⟩
      simp [h1]
      try omega

theorem intUint64_z (L : Nat) (z : Int) (base p : Nat) (w : World) (h : IntZ L z w base p) (hL : L ≤ 17592186044416) :
    Calls Try.prog 43 #[.pointer (some ⟨p, 0, none⟩)] w fun e w' => e = .returned (.int .u64 (low z)) ∧ w = w' := by
  obtain ⟨a, c, ws, hp, ho, hn, hv, hl⟩ := h.low
  have hlow : ws.getD 0 0 = low z := by rw [low_val ws ho.1, hv]; rfl
  have c0 := blk_cell hp 0
  have c1 := blk_cell hp 1
  simp at c0 c1
  generalize low z = x at *
  have HR := Lib.hid ho.read
  have HLW := Lib.hid hlow
  clear hp ho hn hv h hlow
  go_enter Try.func43, Try.ntmps43
  go_wp2_with fail
  refine (low64_any _ ws x _ HR.out HLW.out).mono ?_
  rintro e w1 ⟨rfl, rfl⟩
  go_wp2_with fail
  go_ret
  exact ⟨rfl, rfl⟩

def isI (z : Int) : Bool := decide (-9223372036854775808 ≤ z ∧ z < 9223372036854775808)

theorem wrap_small (x : Int) (h0 : -9223372036854775808 ≤ x) (h1 : x < 9223372036854775808) : wrap64 x = x := by unfold wrap64; omega

theorem wrap_great (x : Int) (h0 : 9223372036854775808 ≤ x) (h1 : x < 18446744073709551616) : wrap64 x = x - 18446744073709551616 := by unfold wrap64; omega

theorem low_lt (z : Int) : low z < 18446744073709551616 := Nat.mod_lt _ (by decide)

theorem low_eq {z : Int} (hl : z.natAbs < 18446744073709551616) : low z = z.natAbs := Nat.mod_eq_of_lt hl

theorem wrap_sign (x : Nat) (h : x < 18446744073709551616) : 0 ≤ wrap64 (x : Int) ↔ x < 9223372036854775808 := by
  rcases Nat.lt_or_ge x 9223372036854775808 with h1 | h1
  · rw [wrap_small x (by omega) (by omega)]; omega
  · rw [wrap_great x (by omega) (by omega)]; omega

theorem isI_yes {z : Int} {x : Nat} (hx : low z = x) (hl : z.natAbs < 18446744073709551616) (h0 : 0 ≤ wrap64 (x : Int)) : isI z = true := by
  subst hx
  rw [wrap_sign _ (low_lt z), low_eq hl] at h0
  exact decide_eq_true (by omega)

theorem isI_neg {z : Int} {x : Nat} (hx : low z = x) (hl : z.natAbs < 18446744073709551616) (h0 : ¬ 0 ≤ wrap64 (x : Int)) (hz : z < 0) : isI z = (wrap64 (x : Int) == wrap64 (-wrap64 (x : Int))) := by
  subst hx
  rw [wrap_sign _ (low_lt z), low_eq hl] at h0
  rw [low_eq hl, wrap_great _ (by omega) (by omega)]
  rw [Bool.eq_iff_iff, beq_iff_eq, isI, decide_eq_true_iff]
  by_cases h1 : z.natAbs = 9223372036854775808
  · rw [h1]
    have : wrap64 (-(((9223372036854775808 : Nat) : Int) - 18446744073709551616)) = -9223372036854775808 := by unfold wrap64; omega
    rw [this]
    omega
  · rw [wrap_small _ (by omega) (by omega)]
    omega

theorem isI_pos {z : Int} {x : Nat} (hx : low z = x) (hl : z.natAbs < 18446744073709551616) (h0 : ¬ 0 ≤ wrap64 (x : Int)) (hz : ¬ z < 0) : isI z = false := by
  subst hx
  rw [wrap_sign _ (low_lt z), low_eq hl] at h0
  exact decide_eq_false (by omega)

theorem isI_no {z : Int} (hl : ¬ z.natAbs < 18446744073709551616) : isI z = false := decide_eq_false (by omega)

end Go.Proofs.Ytdfknmplpjmemaa
