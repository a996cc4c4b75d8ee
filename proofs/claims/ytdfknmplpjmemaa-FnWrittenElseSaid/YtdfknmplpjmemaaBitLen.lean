/- bits.Len off the shelf, nat.bitLen, (*Int).BitLen, impl.BitLen: contracts. -/
import Derived.Test.YtdfknmplpjmemaaBits
import Derived.Shelf.Small.Bits
import Derived.Laws.Bits64b
set_option linter.unusedSimpArgs false
set_option linter.unusedVariables false
namespace Go.Proofs.Ytdfknmplpjmemaa
open Go.RowKit

def lenRen : Go.Shelf.Ren := ⟨fun n => if n = 125 then 96 else if n = 128 then 102 else if n = 129 then 103 else n, fun n => if n = 3 then 3 else if n = 4 then 4 else if n = 5 then 5 else if n = 9 then 9 else if n = 46 then 25 else if n = 51 then 106 else if n = 53 then 32 else n, fun n => n⟩

theorem lenLays : Lays.n125 Try.prog lenRen := by
  constructor <;> first | kernel_rfl | (intro w; kernel_rfl)

theorem bitLenAux_pos {f x : Nat} (hx : x ≠ 0) : Lib.bitLenAux (f + 1) x = 1 + Lib.bitLenAux f (x / 2) := by
  simp [Lib.bitLenAux, hx]

theorem bitLenAux_eq (f x : Nat) (h : x < 2 ^ f) : Lib.bitLenAux f x = blenN x := by
  induction f generalizing x with
  | zero =>
    have : x = 0 := by simp at h; omega
    subst this; rfl
  | succ f ih =>
    by_cases hx : x = 0
    · subst hx; simp [Lib.bitLenAux, blenN]
    · rw [bitLenAux_pos hx, ih (x / 2) (by rw [Nat.pow_succ] at h; omega)]
      symm
      have h1 := lt_blenN (x / 2)
      refine blenN_unique ?_ ?_
      · rw [Nat.add_comm, Nat.pow_succ]; omega
      · right
        rw [Nat.add_sub_cancel_left]
        by_cases h2 : x / 2 = 0
        · rw [h2]; simp [blenN]; omega
        · have h3 := blenN_le (x / 2) h2
          have h4 : 0 < blenN (x / 2) := by unfold blenN; rw [if_neg h2]; omega
          have h5 : 2 ^ blenN (x / 2) = 2 ^ (blenN (x / 2) - 1) * 2 := by rw [← Nat.pow_succ]; congr 1; omega
          omega

theorem bitsLen_any (x : Nat) (w : World) (hx : x < 18446744073709551616) :
    Calls Try.prog 96 #[.int .u64 (x : Nat)] w fun e w' => e = .returned (.int .i64 (blenN x : Nat)) ∧ w' = w := by
  have h := Any.bits_Len lenLays (x : Int) w (by omega) (by omega)
  rw [Int.toNat_natCast, show Lib.bitLen x = blenN x from bitLenAux_eq 64 x (by omega)] at h
  exact h

/-- A word with its upper bits smeared downwards has the same length. -/
theorem smear (x : Nat) (hx : x < 18446744073709551616) (d : Nat) (hd : 0 < d) : ∃ s : Nat, s < 18446744073709551616 ∧ blenN s = blenN x ∧ bits .or .u64 (x : Int) ((x : Int) / (d : Int)) = (s : Int) := by
  rw [← Int.natCast_ediv]
  have hle : x / d ≤ x := Nat.div_le_self x d
  refine ⟨x ||| (x / d), ?_, ?_, bits_or_u64_nat x (x / d) hx (by omega)⟩
  · exact Nat.or_lt_two_pow (n := 64) (by omega) (by omega)
  · have h1 := lt_blenN x
    refine blenN_unique (Nat.or_lt_two_pow h1 (by omega)) ?_
    by_cases h0 : x = 0
    · subst h0; left; rfl
    · right
      have := blenN_le x h0
      have h2 : x ≤ x ||| (x / d) := Nat.left_le_or
      omega

theorem blen_words {ws : List Nat} (hb : ∀ x ∈ ws, x < 18446744073709551616) (hpos : 0 < ws.length) (h0 : ws.getD (ws.length - 1) 0 ≠ 0) : blenN (val ws) = (ws.length - 1) * 64 + blenN (ws.getD (ws.length - 1) 0) := by
  generalize ht : ws.getD (ws.length - 1) 0 = t at *
  have h1 := val_split ws (ws.length - 1)
  have h2 := val_drop ws (ws.length - 1)
  rw [show ws.length - 1 + 1 = ws.length by omega, val_drop_all ws ws.length (Nat.le_refl _), ht] at h2
  have h3 := val_take_lt ws hb (ws.length - 1)
  rw [h2, pow64] at h1
  rw [pow64] at h3
  rw [Nat.mul_comm (ws.length - 1) 64]
  generalize 64 * (ws.length - 1) = m at *
  have h4 := lt_blenN t
  have h5 := blenN_le t h0
  have h6 : 0 < blenN t := by unfold blenN; rw [if_neg h0]; omega
  refine blenN_unique ?_ (.inr ?_)
  · rw [h1, Nat.pow_add]
    have : 2 ^ m * (t + 1) ≤ 2 ^ m * 2 ^ blenN t := Nat.mul_le_mul_left _ h4
    rw [Nat.mul_add] at this
    simp only [Nat.mul_zero, Nat.add_zero, Nat.mul_one] at *
    omega
  · rw [h1, show m + blenN t - 1 = m + (blenN t - 1) by omega, Nat.pow_add]
    have : 2 ^ m * 2 ^ (blenN t - 1) ≤ 2 ^ m * t := Nat.mul_le_mul_left _ h5
    simp only [Nat.mul_zero, Nat.add_zero] at *
    omega

theorem ret_i {a b : Int} (h : a = b) : Ending.returned (.int .i64 a) = .returned (.int .i64 b) := by rw [h]

theorem last_ne {ws : List Nat} (hn : norm ws = ws) (hpos : 0 < ws.length) : ws.getD (ws.length - 1) 0 ≠ 0 := by
  intro h
  have h1 := normLen_step ws ws.length hpos (Nat.le_refl _) h
  rw [List.take_length] at h1
  have h2 := normLen_le (ws.take (ws.length - 1))
  have h3 := norm_length ws
  rw [hn] at h3
  simp at h2
  omega

set_option maxRecDepth 100000 in
set_option maxHeartbeats 1000000 in
theorem natBitLen_some (b off : Nat) (x n c r : Nat) (w : World) (hn : 0 < n) (hx : x < 18446744073709551616) (hnl : n ≤ 17592186044416) (hcell : w.cell? ⟨b, off + (n - 1), none⟩ = some (.int .u64 (x : Nat))) (hr : (n - 1) * 64 + blenN x = r) :
    Calls Try.prog 80 #[.slice (some ⟨b, off, none⟩) n c] w fun e w' => e = .returned (.int .i64 (r : Nat)) ∧ w = w' := by
  obtain ⟨x1, k1, b1, (e1 : bits .or .u64 (x : Int) ((x : Int) / 2) = (x1 : Int))⟩ := smear x hx 2 (by omega)
  obtain ⟨x2, k2, b2, (e2 : bits .or .u64 (x1 : Int) ((x1 : Int) / 4) = (x2 : Int))⟩ := smear x1 k1 4 (by omega)
  obtain ⟨x3, k3, b3, (e3 : bits .or .u64 (x2 : Int) ((x2 : Int) / 16) = (x3 : Int))⟩ := smear x2 k2 16 (by omega)
  obtain ⟨x4, k4, b4, (e4 : bits .or .u64 (x3 : Int) ((x3 : Int) / 256) = (x4 : Int))⟩ := smear x3 k3 256 (by omega)
  obtain ⟨x5, k5, b5, (e5 : bits .or .u64 (x4 : Int) ((x4 : Int) / 65536) = (x5 : Int))⟩ := smear x4 k4 65536 (by omega)
  obtain ⟨x6, k6, b6, (e6 : bits .or .u64 (x5 : Int) ((x5 : Int) / 4294967296) = (x6 : Int))⟩ := smear x5 k5 4294967296 (by omega)
  have hl := bitsLen_any x6 w k6
  have hbl : blenN x6 = blenN x := by rw [b6, b5, b4, b3, b2, b1]
  rw [hbl] at hl
  have hb64 : blenN x ≤ 64 := (blenN_le_iff x 64).2 (by omega)
  generalize blenN x = bl at *
  have HL := Lib.hid hl
  have HR := Lib.hid hr
  clear hl hr b1 b2 b3 b4 b5 b6 hbl
  have e6' : bits BinOp.or IntKind.u64 (x5 : Int) ((x5 : Int) / 65536 / 65536) = (x6 : Int) := by
    rw [Int.ediv_ediv_of_nonneg (by omega)]; exact e6
  clear e6
  go_enter Try.func80, Try.ntmps80
  go_wp2_with fail
  refine HL.out.mono ?_
  clear e1 e2 e3 e4 e5 e6'
  rintro e w' ⟨rfl, rfl⟩
  go_wp2_with fail
  go_ret
  have h := HR.out
  have h2 : ((n : Int) - 1) * 64 + (bl : Int) = (r : Int) := by omega
  exact ⟨ret_i h2, rfl⟩

theorem natBitLen_any (v : Value) (ws : List Nat) (w : World) (h : Rd .u64 w v ws) (hn : norm ws = ws) (hl : ws.length ≤ 17592186044416) :
    Calls Try.prog 80 #[v] w fun e w' => e = .returned (.int .i64 (blenN (val ws) : Nat)) ∧ w = w' := by
  have hb : ∀ x ∈ ws, x < 18446744073709551616 := h.1
  rcases h.shape with ⟨rfl, a, cap, rfl, hc, _⟩ | ⟨hpos, b, off, cap, rfl, hlc, hcap, hcells⟩
  · rw [show blenN (val []) = 0 from rfl]
    clear h hb hn
    go_enter Try.func80, Try.ntmps80
    go_wp2_with fail
    go_ret
    exact ⟨rfl, rfl⟩
  · exact natBitLen_some b off (ws.getD (ws.length - 1) 0) ws.length cap _ w hpos (by
      rw [List.getD_eq_getElem?_getD, List.getElem?_eq_getElem (by omega)]; exact hb _ (List.getElem_mem _)) hl (hcells _ (by omega)) (blen_words hb hpos (last_ne hn hpos)).symm

theorem intBitLen_z (L : Nat) (z : Int) (base p : Nat) (w : World) (h : IntZ L z w base p) (hL : L ≤ 17592186044416) :
    Calls Try.prog 59 #[.pointer (some ⟨p, 0, none⟩)] w fun e w' => e = .returned (.int .i64 (blen z : Nat)) ∧ w = w' := by
  obtain ⟨a, c, ws, hp, ho, hn, hv, hl⟩ := h.low
  have c1 := blk_cell hp 1
  simp at c1
  have HO := Lib.hid ho.read
  have HN := Lib.hid hn
  have hr : blenN (val ws) = blen z := by rw [hv]; rfl
  have HR := Lib.hid hr
  generalize blen z = r at *
  clear hp ho hn hv h hr
  go_enter Try.func59, Try.ntmps59
  go_wp2_with fail
  refine (natBitLen_any _ ws _ HO.out HN.out (by omega)).mono ?_
  rw [HR.out]
  rintro e w' ⟨rfl, rfl⟩
  go_wp2_with fail
  go_ret
  exact ⟨rfl, rfl⟩

theorem implBitLen_z (L : Nat) (z : Int) (x : Value) (w : World) (h : IsZ L z x w) (hL : L ≤ 17592186044416) :
    Calls Try.prog 38 #[x] w (ResR (Is (.int .i64 (blen z : Nat))) w) := by
  obtain ⟨n, a, l, c, rfl⟩ := h.form
  have H := Lib.hid h
  clear h
  go_enter Try.func38, Try.ntmps38
  go_wp2_with fail
  refine (integer_z L z _ _ (H.out.ext (Ext.alloc _ _)) hL).mono ?_
  rintro e w1 ⟨he, p, rfl, hp, hI⟩
  have HE := Lib.hid ((Ext.alloc _ _).trans he)
  have HI := Lib.hid hI
  clear he hI
  go_wp2_with fail
  refine (intBitLen_z L z _ p _ HI.out hL).mono ?_
  rintro e w2 ⟨rfl, rfl⟩
  go_wp2_with fail
  go_ret
  exact ⟨HE.out, _, rfl, rfl⟩

end Go.Proofs.Ytdfknmplpjmemaa
