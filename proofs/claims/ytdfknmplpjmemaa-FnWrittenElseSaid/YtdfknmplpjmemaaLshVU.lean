/- lshVU_g: contract. -/
import Derived.Test.YtdfknmplpjmemaaShl
import Derived.Test.YtdfknmplpjmemaaMake
import Derived.Test.YtdfknmplpjmemaaSpec
import Derived.Laws.Bits64b
import Derived.StillTailTactics
import Derived.Laws.Twins
set_option linter.unusedSimpArgs false
set_option linter.unusedVariables false
namespace Go.Proofs.Ytdfknmplpjmemaa
open Go.RowKit

/-- What lshVU leaves: the words shifted, and what is shifted out. -/
def lshR (w : World) (bz oz : Nat) (cz : Array Value) (T : TypeId) (xs : List Nat) (s : Nat) (e : Ending) (w' : World) : Prop :=
  e = .returned (.int .u64 (shlC s 0 xs : Nat)) ∧ Upd (· = bz) w w' ∧ w'.heap[bz]? = some (.cells (put cz oz (words .u64 (shlL s 0 xs))) T (0, 0))

def lshK (w : World) (bz oz : Nat) (cz : Array Value) (T : TypeId) (xs : List Nat) (s m : Nat) (iv : Value) (wr : World) : Prop :=
  ∃ k : Nat, k < m ∧ iv = .int .i64 (k : Nat) ∧ Upd (· = bz) w wr ∧ wr.heap[bz]? = some (.cells (put cz (oz + k + 1) (words .u64 ((shlL s 0 xs).drop (k + 1)))) T (0, 0))

theorem lsh_read {w wr : World} {bz oz bx ox k j m : Nat} {cz : Array Value} {T : TypeId} {l : List Value} {v : Value} (hz : w.heap[bz]? = some (.cells cz T (0, 0))) (hfit : oz + m ≤ cz.size) (hk : k < m) (hj : j ≤ k) (hal : bx = bz → ox ≤ oz) (hu : Upd (· = bz) w wr) (hrow : wr.heap[bz]? = some (.cells (put cz (oz + k + 1) l) T (0, 0))) (hc : w.cell? ⟨bx, ox + j, none⟩ = some v) : wr.cell? ⟨bx, ox + j, none⟩ = some v := by
  by_cases hb : bx = bz
  · subst hb
    have := hal rfl
    rw [blk_cell hz] at hc
    rw [blk_cell hrow, put_before _ _ _ _ (by omega) (by omega)]
    exact hc
  · exact hu.cell hc hb

/-- The two parts of a shifted word, as the code joins them. -/
theorem shl_word {s t y z : Nat} (hst : s + t = 64) (hy : y < 18446744073709551616) (hz : z < 18446744073709551616) : bits BinOp.or IntKind.u64 (((y % 2 ^ t) * 2 ^ s : Nat) : Int) ((z / 2 ^ t : Nat) : Int) = (((y % 2 ^ t) * 2 ^ s + z / 2 ^ t : Nat) : Int) := by
  have e := pow_split (s := s) (by omega)
  rw [show 64 - s = t by omega] at e
  have hp : 0 < 2 ^ t := Nat.pow_pos (by decide)
  have h1 : y % 2 ^ t < 2 ^ t := Nat.mod_lt _ hp
  have h2 : z / 2 ^ t < 2 ^ s := by rw [Nat.div_lt_iff_lt_mul hp, Nat.mul_comm, e]; exact hz
  have h3 : (y % 2 ^ t + 1) * 2 ^ s ≤ 2 ^ t * 2 ^ s := Nat.mul_le_mul_right _ h1
  have hp2 : 0 < 2 ^ s := Nat.pow_pos (by decide)
  rw [Nat.add_mul] at h3
  rw [bits_or_u64_nat _ _ (by omega) (by omega), or_parts _ _ _ h2]

theorem shl_word' {s t y z : Nat} (hst : s + t = 64) (hy : y < 18446744073709551616) (hz : z < 18446744073709551616) : bits BinOp.or IntKind.u64 (((y % 2 ^ t) * 2 ^ s : Nat) : Int) ((z : Int) / 2 ^ t) = (((y % 2 ^ t) * 2 ^ s + z / 2 ^ t : Nat) : Int) := by
  rw [← shl_word hst hy hz]
  congr 1

theorem shl_wrap {s t y : Nat} (hst : s + t = 64) : IntKind.u64.wrap ((y : Int) * 2 ^ s) = (((y % 2 ^ t) * 2 ^ s : Nat) : Int) := by
  have e := pow_split (s := s) (by omega)
  rw [show 64 - s = t by omega] at e
  rw [IntKind.wrap_u64, show (y : Int) * 2 ^ s = ((y * 2 ^ s : Nat) : Int) by push_cast; rfl]
  have : y * 2 ^ s % 18446744073709551616 = (y % 2 ^ t) * 2 ^ s := by rw [← e, Nat.mul_mod_mul_right]
  omega

theorem and63 (s : Nat) (hs : s < 64) : bits BinOp.and IntKind.u64 (s : Int) 63 = (s : Int) := by
  have h := bits_and_u64_nat s 63 (by omega) (by omega)
  have h2 : s &&& 63 = s := by
    have := Nat.and_two_pow_sub_one_eq_mod s 6
    simpa [Nat.mod_eq_of_lt hs] using this
  rw [h2] at h
  exact h

set_option maxRecDepth 100000 in
set_option maxHeartbeats 2000000 in
theorem lshVU_any (bz oz kz bx ox kx m s : Nat) (cz : Array Value) (T : TypeId) (xs : List Nat) (w : World) (hz : w.heap[bz]? = some (.cells cz T (0, 0))) (hfit : oz + m ≤ cz.size) (hm : 0 < m) (hml : m ≤ 17592186044416) (hs : 0 < s) (hst : s < 64)
    (hxl : xs.length = m) (hxb : ∀ x ∈ xs, x < 18446744073709551616) (hx : ∀ i, i < m → w.cell? ⟨bx, ox + i, none⟩ = some (.int .u64 (xs.getD i 0 : Nat))) (hal : bx = bz → ox ≤ oz) :
    Calls Try.prog 68 #[.slice (some ⟨bz, oz, none⟩) m kz, .slice (some ⟨bx, ox, none⟩) m kx, .int .u64 (s : Nat)] w (lshR w bz oz cz T xs s) := by
  have hb0 : ((s : Int) == 0) = false := by simp; omega
  have hb1 : ((m : Int) == 0) = false := by simp; omega
  obtain ⟨t, ht⟩ : ∃ t, s + t = 64 := ⟨64 - s, by omega⟩
  have h64 : (64 : Int) - (s : Int) = (t : Int) := by omega
  have ha1 := and63 s hst
  have ha2 := and63 t (by omega)
  have hcm := hx (m - 1) (by omega)
  generalize hxm : xs.getD (m - 1) 0 = xm at hcm
  have hxmlt : xm < 18446744073709551616 := by rw [← hxm]; exact getD_lt hxb (by omega) _
  have hcar : shlC s 0 xs = xm / 2 ^ t := by rw [shlC_eq s 0 xs (by omega), hxl, hxm, show 64 - s = t by omega]
  have hLl := shl_len s 0 xs
  have HZ := Lib.hid hz
  have HX := Lib.hid hx
  have HXL := Lib.hid hxl
  have HXB := Lib.hid hxb
  have HAL := Lib.hid hal
  have HCAR := Lib.hid hcar
  have HLL := Lib.hid hLl
  have HT := Lib.hid ht
  have htl : t < 64 := by omega
  clear hz hx hxl hxb hal hxm hcar hLl ht
  go_enter Try.func68, Try.ntmps68
  go_wp2_with fail
  go_loopw [8] (fun iv wr => lshK w bz oz cz T xs s m iv wr) (fun iv _ => (intOf iv).toNat)
  case atStart => exact ⟨m - 1, by omega, by go_num, Upd.refl _ _, by rw [show m - 1 + 1 = m by omega, List.drop_of_length_le (by rw [HLL.out, HXL.out]; omega), show words IntKind.u64 [] = [] from rfl, put_nil]; exact HZ.out⟩
  case round =>
    obtain ⟨k, hk, rfl, hu, hrow⟩ := hrel
    have hwd := words_drop .u64 (shlL s 0 xs) k (by rw [HLL.out, HXL.out]; exact hk)
    have hget := shl_get s 0 xs k (by rw [HXL.out]; exact hk)
    rw [show 64 - s = t by have := HT.out; omega] at hget
    have hck := lsh_read HZ.out hfit hk (Nat.le_refl k) HAL.out hu hrow (HX.out k hk)
    generalize hyk : xs.getD k 0 = y at hck hget
    have hylt : y < 18446744073709551616 := by rw [← hyk]; exact getD_lt HXB.out (by omega) _
    have hcz : wr.cell? ⟨bz, oz + k, none⟩ = some (cz[oz + k]'(by omega)) := by rw [blk_cell hrow, put_before _ _ _ _ (by omega) (by omega)]; exact Array.getElem?_eq_getElem (by omega)
    have hfz := blk_free hrow (oz + k)
    have hnew : ∀ (wq : World) (v : Nat), Upd (· = bz) w wq → wq.heap[bz]? = wr.heap[bz]? → (shlL s 0 xs).getD k 0 = v → Upd (· = bz) w (wq.setCell ⟨bz, oz + k, none⟩ (.int .u64 (v : Nat))) ∧ (wq.setCell ⟨bz, oz + k, none⟩ (.int .u64 (v : Nat))).heap[bz]? = some (.cells (put cz (oz + k) (words .u64 ((shlL s 0 xs).drop k))) T (0, 0)) := by
      intro wq v h1 h2 h3
      refine ⟨h1.same ((Upd.refl _ _).setCell (by rfl) _), ?_⟩
      rw [hrow] at h2
      rw [blk_setc h2, hwd, h3, put_cons _ _ _ _ (by rw [words_len, List.length_drop, HLL.out, HXL.out]; omega)]
    have HNEW := Lib.hid hnew
    have HGET := Lib.hid hget
    have HU := Lib.hid hu
    have HROW := Lib.hid hrow
    clear hnew hget hu hwd hyk
    by_cases hk0 : 0 < k
    · have hck1 := lsh_read HZ.out hfit hk (j := k - 1) (by omega) HAL.out HU.out HROW.out (HX.out (k - 1) (by omega))
      generalize hzk : xs.getD (k - 1) 0 = z at hck1
      have hzlt : z < 18446744073709551616 := by rw [← hzk]; exact getD_lt HXB.out (by omega) _
      have HZK := Lib.hid hzk
      generalize cz[oz + k]'(by omega) = zk at hcz
      clear hrow hzk
      go_wp2_with fail
      have i1 : (0 : Int) ≤ (k : Int) := by omega
      have i2 : (k : Int) < (m : Int) := by omega
      have i3 : (0 : Int) ≤ (k : Int) - 1 := by omega
      have i4 : (k : Int) - 1 < (m : Int) := by omega
      have i5 : ((k : Int) - 1).toNat = k - 1 := by omega
      have i6 : IntKind.i64.wrap ((k : Int) - 1) = (k : Int) - 1 := IntWalk.i64_in _ (by omega)
      have i7 : (1 : Int) ≤ (k : Int) := by omega
      have i8 : (k : Int) < (m : Int) + 1 := by omega
      have i9 : 1 ≤ k := by omega
      have i10 : k ≤ m := by omega
      have i11 : k < m + 1 := by omega
      have s1 := shl_wrap (y := y) HT.out
      have s2 := shl_word' HT.out hylt hzlt
      go_still_tail 17, (by kernel_rfl)
      clear i1 i2 i3 i4 i5 i6 i7 i8 i9 i10 i11 s1 s2
      generalize hw9 : ({ heap := wr.heap, tape := wr.tape, drawn := wr.drawn + 1, os := wr.os, output := wr.output } : World) = w9
      have hc9 : w9.cell? ⟨bz, oz + k, none⟩ = some zk := by rw [← hw9]; exact hcz
      have hf9 : w9.frozen? ⟨bz, oz + k, none⟩ = false := by rw [← hw9]; exact hfz
      have HN9 := Lib.hid (HNEW.out w9 ((y % 2 ^ t) * 2 ^ s + z / 2 ^ t) (by rw [← hw9]; exact HU.out.drew) (by rw [← hw9]) (by rw [HGET.out, if_neg (by omega), HZK.out]))
      have hN9 := HN9.out
      rw [← shl_word' HT.out hylt hzlt, show (((y % 2 ^ t) * 2 ^ s : Nat) : Int) = (y : Int) % 2 ^ t * 2 ^ s by push_cast; rfl] at hN9
      replace HN9 := Lib.hid hN9
      clear hw9 hcz hfz hck hck1 hN9
      go_wp2_with fail
      go_roundw
      case rel => exact ⟨k - 1, by omega, by go_num, HN9.out.1, by rw [show k - 1 + 1 = k by omega, show oz + (k - 1) + 1 = oz + k by omega]; exact HN9.out.2⟩
      case measure => simp [intOf]; omega
    · obtain rfl : k = 0 := by omega
      generalize cz[oz + 0]'(by omega) = zk at hcz
      simp only [Nat.add_zero] at *
      have s1 := shl_wrap (y := y) HT.out
      have hN := HNEW.out wr ((y % 2 ^ t) * 2 ^ s) HU.out rfl (by rw [HGET.out]; simp)
      rw [List.drop_zero, show (((y % 2 ^ t) * 2 ^ s : Nat) : Int) = (y : Int) % 2 ^ t * 2 ^ s by push_cast; rfl] at hN
      have HN := Lib.hid hN
      clear hrow hN
      go_wp2_with fail
      go_ret
      exact ⟨by rw [HCAR.out, Int.natCast_ediv, Int.natCast_pow]; rfl, HN.out.1, HN.out.2⟩

end Go.Proofs.Ytdfknmplpjmemaa
