/- Trailing zeros: plain laws; bits.TrailingZeros off the shelf, nat.trailingZeroBits, (*Int).TrailingZeroBits, impl.TrailingZeroBits, laws.trailing: contracts. -/
import Derived.Test.YtdodcmncdlnceaaDoorBits
import Derived.Test.YtdodcmncdlnceaaDoorHelpers
import Derived.Test.YtdodcmncdlnceaaDoorPut
import Derived.Shelf.Spec.TrailingZeros
set_option linter.unusedSimpArgs false
set_option linter.unusedVariables false
namespace Go.Proofs.YtdodcmncdlnceaaDoor
open Go.RowKit

/-- The number of zero bits below the lowest one; 0 for 0. -/
def tzN (v : Nat) : Nat := if v = 0 then 0 else Lib.ctzFrom v v

theorem tz_unique {a b m n : Nat} (h : 2 ^ a * (2 * m + 1) = 2 ^ b * (2 * n + 1)) : a = b := by
  have key : ∀ {a b m n : Nat}, 2 ^ a * (2 * m + 1) = 2 ^ b * (2 * n + 1) → ¬ a < b := by
    intro a b m n h hlt
    obtain ⟨d, rfl⟩ : ∃ d, b = a + (d + 1) := ⟨b - a - 1, by omega⟩
    rw [Nat.pow_add, Nat.mul_assoc] at h
    have h1 := Nat.eq_of_mul_eq_mul_left (Nat.pow_pos (by decide)) h
    have h2 : 2 ^ (d + 1) * (2 * n + 1) = 2 * (2 ^ d * (2 * n + 1)) := by rw [Nat.pow_succ, Nat.mul_comm (2 ^ d) 2, Nat.mul_assoc]
    omega
  have h1 := key h
  have h2 := key h.symm
  omega

theorem tz_spec {v : Nat} (h : v ≠ 0) : ∃ m, v = 2 ^ tzN v * (2 * m + 1) := by
  obtain ⟨m, hm, _⟩ := Lib.ctzFrom_spec v v (by omega) Nat.lt_two_pow_self
  exact ⟨m, by unfold tzN; rw [if_neg h]; exact hm⟩

theorem tz_of {v n m : Nat} (h : v = 2 ^ n * (2 * m + 1)) : tzN v = n := by
  have h0 : v ≠ 0 := by
    rw [h]
    have : 0 < 2 ^ n * (2 * m + 1) := Nat.mul_pos (Nat.pow_pos (by decide)) (by omega)
    omega
  obtain ⟨k, hk⟩ := tz_spec h0
  exact tz_unique (hk.symm.trans h)

theorem tz_zero : tzN 0 = 0 := rfl

theorem ctz_spec {x : Nat} (hx : x ≠ 0) (hl : x < 18446744073709551616) : ∃ m, x = 2 ^ Lib.ctz 64 x * (2 * m + 1) ∧ Lib.ctz 64 x < 64 := by
  obtain ⟨m, h1, h2⟩ := Lib.ctzFrom_spec 64 x (by omega) hl
  have e : Lib.ctz 64 x = Lib.ctzFrom 64 x := by simp [Lib.ctz, hx]
  rw [e]
  exact ⟨m, h1, h2⟩

/-- The first word that is not 0 tells the number of trailing zeros. -/
theorem tz_words {ws : List Nat} {i : Nat} (hb : ∀ x ∈ ws, x < 18446744073709551616) (hz : val (ws.take i) = 0) (hx : ws.getD i 0 ≠ 0) : tzN (val ws) = i * 64 + Lib.ctz 64 (ws.getD i 0) := by
  have hl : ws.getD i 0 < 18446744073709551616 := getD_lt hb (by omega) i
  obtain ⟨m, h1, h2⟩ := ctz_spec hx hl
  have h3 := val_split ws i
  rw [hz, Nat.zero_add, val_drop] at h3
  generalize ws.getD i 0 = x at *
  generalize Lib.ctz 64 x = c at *
  generalize val (ws.drop (i + 1)) = r at *
  refine tz_of (m := m + 2 ^ (63 - c) * r) ?_
  rw [h3, pow64, h1, Nat.pow_add, Nat.mul_comm i 64, Nat.mul_assoc]
  congr 1
  have h4 : (18446744073709551616 : Nat) = 2 ^ c * (2 * 2 ^ (63 - c)) := by
    rw [← Nat.pow_succ', ← Nat.pow_add, show c + (63 - c + 1) = 64 by omega]
  rw [h4, Nat.mul_assoc, ← Nat.mul_add]
  congr 1
  rw [Nat.mul_assoc]
  omega

def tzRen : Go.Shelf.Ren := ⟨fun n => if n = 27 then 31 else if n = 28 then 33 else if n = 29 then 34 else n, fun n => if n = 0 then 0 else if n = 3 then 3 else if n = 4 then 4 else if n = 5 then 5 else if n = 22 then 58 else if n = 25 then 28 else if n = 27 then 56 else if n = 53 then 60 else if n = 54 then 61 else n, fun n => if n = 0 then 0 else if n = 1 then 1 else n⟩

theorem tzLays : Lays7.n27 Tryd.prog tzRen := by
  constructor <;> first | kernel_rfl | (intro w; kernel_rfl)

/-- The table lies in memory. -/
def Tab64 (w : World) : Prop := TabAt 1 Lib.deBruijn64tab w

theorem Tab64.ext {w w' : World} (h : Tab64 w) (he : Ext w w') : Tab64 w' := fun j hj => he.cell (h j hj)

theorem bitsTz_any (x : Nat) (w : World) (hx : x < 18446744073709551616) (h : Tab64 w) :
    Calls Tryd.prog 31 #[.int .u64 (x : Nat)] w fun e w' => e = .returned (.int .i64 (Lib.ctz 64 x : Nat)) ∧ w = w' :=
  (Any7.bits_TrailingZeros tzLays x hx w (fun _ => h)).mono fun e w' ⟨h1, h2⟩ => ⟨h1, h2.symm⟩

set_option maxRecDepth 100000 in
theorem natTz_any (v : Value) (ws : List Nat) (w : World) (h : Rd .u64 w v ws) (hn : norm ws = ws) (hl : ws.length ≤ 17592186044416) (ht : Tab64 w) :
    Calls Tryd.prog 26 #[v] w fun e w' => e = .returned (.int .u64 (tzN (val ws) : Nat)) ∧ w = w' := by
  have hb : ∀ x ∈ ws, x < 18446744073709551616 := h.1
  obtain ⟨_, a, cap, rfl, hlc, hcap, hnil, hcells⟩ := h
  rcases Nat.eq_zero_or_pos ws.length with h0 | h0
  · have : ws = [] := List.eq_nil_of_length_eq_zero h0
    subst this
    rw [show tzN (val []) = 0 from rfl]
    clear hcells hnil hb hn ht
    go_enter Tryd.func26, Tryd.ntmps26
    go_wp2_with fail
    go_ret
    exact ⟨rfl, rfl⟩
  · have hl0 : ((ws.length : Int) == 0) = false := by rw [beq_eq_false_iff_ne]; omega
    have HC := Lib.hid hcells
    have HB := Lib.hid hb
    have HT := Lib.hid ht
    have HV : Hid (val ws ≠ 0) := Lib.hid (by have := (len_pos_iff hn).1 h0; omega)
    have htz := fun i h1 h2 => tz_words (i := i) hb h1 h2
    have HTZ := Lib.hid htz
    clear hcells hnil hb hn ht htz
    go_enter Tryd.func26, Tryd.ntmps26
    go_wp2_with fail
    go_loop [3] (fun i => ∃ k : Nat, k ≤ ws.length ∧ i = .int .u64 (k : Nat) ∧ Hid (val (ws.take k) = 0)) (fun i => ws.length - (intOf i).toNat)
    case atStart => exact ⟨0, by omega, rfl, Lib.hid (by simp [val])⟩
    case round =>
      obtain ⟨k, hk, rfl, hz⟩ := hrel
      have hlt : k < ws.length := by
        rcases Nat.lt_or_ge k ws.length with h | h
        · exact h
        · have := hz.out
          rw [List.take_of_length_le h] at this
          exact absurd this HV.out
      obtain ⟨b, off, rfl, hc⟩ := HC.out k hlt
      have hs := val_take_succ ws k
      rw [hz.out, Nat.zero_add] at hs
      have hxl : ws.getD k 0 < 18446744073709551616 := getD_lt HB.out (by omega) k
      have htz := HTZ.out k hz.out
      generalize ws.getD k 0 = x at *
      by_cases hx : x = 0
      · subst hx
        have HS := Lib.hid hs
        clear hs htz
        go_wp2_with fail
        go_round
        case rel => exact ⟨k + 1, by omega, by go_num, Lib.hid (by rw [HS.out]; simp)⟩
        case measure => simp [intOf]; omega
      · have hx0 : ((x : Int) == 0) = false := by simp [hx]
        have HQ := Lib.hid (htz hx)
        have hc64 : Lib.ctz 64 x < 64 := by obtain ⟨_, _, h⟩ := ctz_spec hx hxl; exact h
        clear hs htz
        go_wp2_with fail
        refine (bitsTz_any x _ hxl HT.out).mono ?_
        rintro e w1 ⟨rfl, rfl⟩
        generalize Lib.ctz 64 x = cc at *
        have hk64 : k ≤ 17592186044416 := by omega
        clear hx hx0 hl0 hlc hcap hlt hk hl hxl hc h0
        go_wp2_with fail
        go_ret
        exact ⟨congrArg (fun q : Nat => Ending.returned (.int .u64 (q : Int))) HQ.out.symm, rfl⟩

theorem intTz_z (L : Nat) (z : Int) (base p : Nat) (w : World) (h : IntZ L z w base p) (hL : L ≤ 17592186044416) (ht : Tab64 w) :
    Calls Tryd.prog 14 #[.pointer (some ⟨p, 0, none⟩)] w fun e w' => e = .returned (.int .u64 (tzN z.natAbs : Nat)) ∧ w = w' := by
  obtain ⟨a, c, ws, hp, ho, hn, hv, hl⟩ := h.low
  have c0 := blk_cell hp 0
  have c1 := blk_cell hp 1
  simp at c0 c1
  rw [← hv]
  have HR := Lib.hid ho.read
  have HN := Lib.hid hn
  have HT := Lib.hid ht
  clear hp ho hn hv h ht
  go_enter Tryd.func14, Tryd.ntmps14
  go_wp2_with fail
  refine (natTz_any _ ws _ HR.out HN.out (by omega) HT.out).mono ?_
  rintro e w1 ⟨rfl, rfl⟩
  go_wp2_with fail
  go_ret
  exact ⟨rfl, rfl⟩

theorem implTz_z (L : Nat) (z : Int) (x : Value) (w : World) (h : IsZ L z x w) (hL : L ≤ 17592186044416) (ht : Tab64 w) :
    Calls Tryd.prog 7 #[x] w (ResR (Is (.int .u64 (tzN z.natAbs : Nat))) w) := by
  obtain ⟨n, a, l, c, rfl⟩ := h.form
  have HZ := Lib.hid h
  have HT := Lib.hid ht
  clear h ht
  go_enter Tryd.func7, Tryd.ntmps7
  go_wp2_with fail
  refine (integer_z L z _ _ (HZ.out.ext (Ext.alloc _ _)) hL).mono ?_
  rintro e w1 ⟨he, p, rfl, hp, hI⟩
  have HE := Lib.hid ((Ext.alloc _ _).trans he)
  have HI := Lib.hid hI
  clear he hI hp
  go_wp2_with fail
  refine (intTz_z L z _ p _ HI.out hL (HT.out.ext HE.out)).mono ?_
  rintro e w2 ⟨rfl, rfl⟩
  go_wp2_with fail
  go_ret
  exact ⟨HE.out, _, rfl, rfl⟩

theorem trailing_z (L : Nat) (z : Int) (x : Value) (w : World) (h : IsZ L z x w) (hL : L ≤ 17592186044416) (ht : Tab64 w) :
    Calls Tryd.prog 10 #[x] w (ResR (Is (.int .u64 (tzN z.natAbs : Nat))) w) := by
  obtain ⟨n, a, l, c, rfl⟩ := h.form
  have HZ := Lib.hid h
  have HT := Lib.hid ht
  clear h ht
  go_enter Tryd.func10, Tryd.ntmps10
  go_wp2_with fail
  refine (toImpl_z L z _ _ (HZ.out.ext (Ext.alloc _ _)) hL).mono ?_
  rintro e w1 ⟨he, y1, rfl, hy⟩
  have HE := Lib.hid ((Ext.alloc _ _).trans he)
  have HY := Lib.hid hy
  clear he hy
  go_wp2_with fail
  refine (implTz_z L z _ _ HY.out.z hL (HT.out.ext HE.out)).mono ?_
  rintro e w2 ⟨he, y2, rfl, hy⟩
  obtain rfl : y2 = .int .u64 (tzN z.natAbs : Nat) := hy
  replace HE := Lib.hid (HE.out.trans he)
  clear he
  go_wp2_with fail
  go_ret
  exact ⟨HE.out, _, rfl, rfl⟩

end Go.Proofs.YtdodcmncdlnceaaDoor
