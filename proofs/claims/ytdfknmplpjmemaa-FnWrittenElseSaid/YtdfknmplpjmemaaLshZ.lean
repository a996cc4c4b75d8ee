/- laws.lsh by values (printed by lawgen.py). -/
import Derived.Test.YtdfknmplpjmemaaImplLsh
import Derived.Test.YtdfknmplpjmemaaBitLen
import Derived.Test.YtdfknmplpjmemaaLaw5
set_option linter.unusedSimpArgs false
set_option linter.unusedVariables false
namespace Go.Proofs.Ytdfknmplpjmemaa
open Go.RowKit

set_option maxHeartbeats 1000000 in
theorem lsh_z (L : Nat) (z : Int) (s : Nat) (x0 : Value) (w : World) (hz0 : IsZ (L) (z) x0 w) (hs : s < 18446744073709551616) (hL : L + s / 64 + 1 ≤ 17592186044416) :
    Calls Try.prog 13 #[x0, .int .u64 (s : Nat)] w (ResR (IsC (L + s / 64 + 1) (z * 2 ^ s)) w) := by
  obtain ⟨n0, a0, l0, c0, rfl⟩ := hz0.form
  have HZ0 := Lib.hid hz0
  clear hz0
  have HS := Lib.hid hs
  clear hs
  go_enter Try.func13, Try.ntmps13
  go_wp2_with fail
  refine (toImpl_z (L) (z) _ _ ((HZ0.out.ext ((Ext.alloc _ _).trans (Ext.alloc _ _)))) (by omega)).mono ?_
  rintro e w1 ⟨he, y1, rfl, hy⟩
  have HB := Lib.hid he
  have HE := Lib.hid (((Ext.alloc _ _).trans (Ext.alloc _ _)).trans he)
  clear he
  have HY1 := Lib.hid hy
  clear hy
  have hcc := fun a v h => Ext.cell HB.out (a := a) (v := v) h
  go_wp2_with fail
  refine (implLsh_z 0 L 0 z s _ _ _ ((IsZ.zeroN _).mono (by omega)) (HY1.out.z) HS.out hL).mono ?_
  clear hcc
  rintro e w2 ⟨he, y2, rfl, hy⟩
  replace HY1 := Lib.hid (HY1.out.ext he)
  replace HB := Lib.hid (HB.out.trans he)
  replace HE := Lib.hid (HE.out.trans he)
  clear he
  obtain ⟨m1, s1, m2, s2, m3, s3, rfl, t1, t2, t3⟩ := hy
  have HT1 := Lib.hid t1
  have HT2 := Lib.hid t2
  have HT3 := Lib.hid t3
  clear t1 t2 t3
  have hfz := field_z m1 s1 m2 s2 m3 s3
  have hcc := fun a v h => Ext.cell HB.out (a := a) (v := v) h
  go_wp2_with fail
  refine (fromImpl_z ((L + s / 64 + 1)) (z * 2 ^ s) _ _ HT1.out).mono ?_
  clear hcc
  rintro e w3 ⟨he, y3, rfl, hy⟩
  replace HY1 := Lib.hid (HY1.out.ext he)
  replace HT1 := Lib.hid (HT1.out.ext he)
  replace HT2 := Lib.hid (HT2.out.ext he)
  replace HT3 := Lib.hid (HT3.out.ext he)
  replace HB := Lib.hid (HB.out.trans he)
  replace HE := Lib.hid (HE.out.trans he)
  clear he
  have HY3 := Lib.hid hy
  clear hy
  obtain ⟨m, aa, ll, cc, rfl⟩ := HY3.out.form
  have hp : w3.heap[w.heap.size + 1]? = some (.cells #[.bool false, .slice none 0 0] 24 (0, 0)) := HB.out.block (heap_second _ _ _)
  have d0 := blk_cell hp 0
  have d1 := blk_cell hp 1
  have f0 := blk_free hp 0
  have f1 := blk_free hp 1
  simp at d0 d1
  have HP := Lib.hid hp
  clear hp
  try clear hfz
  go_wp2_with fail
  obtain ⟨e0, e1, hu⟩ := set2 HP.out (.bool m) (.slice aa ll cc)
  exact bodyPost_ret (results_laws rfl _ rfl e0 e1) rfl ⟨hu.ext HE.out (by omega), _, rfl, HY3.out.upd HP.out (by decide) hu⟩

theorem u64_nat {x : Int} (hx : (Lit.int .u64 x).wf = true) : ∃ n : Nat, x = n ∧ n < 18446744073709551616 := by
  have h : 0 ≤ x ∧ x ≤ 18446744073709551615 := by simpa [Lit.wf, IntKind.min, IntKind.max, IntKind.signed, IntKind.bits] using hx
  exact ⟨x.toNat, by omega, by omega⟩

theorem pow_posZ (n : Nat) : (0 : Int) < 2 ^ n := Int.pow_pos (by decide)

theorem cmpZ_shl (a b : Int) (n : Nat) : cmpZ (a * 2 ^ n) (b * 2 ^ n) = cmpZ a b := by
  have hp := pow_posZ n
  rcases Int.lt_trichotomy a b with h | h | h
  · rw [cmpZ_lt h, cmpZ_lt (Int.mul_lt_mul_of_pos_right h hp)]
  · rw [h, cmpZ_eq rfl, cmpZ_eq rfl]
  · rw [cmpZ_gt h, cmpZ_gt (Int.mul_lt_mul_of_pos_right h hp)]

theorem sgnZ_shl (a : Int) (n : Nat) : sgnZ (a * 2 ^ n) = sgnZ a := by
  have hp := pow_posZ n
  unfold sgnZ
  rcases Int.lt_trichotomy a 0 with h | h | h
  · rw [if_pos h, if_pos (Int.mul_neg_of_neg_of_pos h hp)]
  · subst h; simp
  · have := Int.mul_pos h hp
    rw [if_neg (by omega), if_neg (by omega), if_neg (by omega), if_neg (by omega)]

theorem blen_neg (a : Int) : blen (-a) = blen a := by unfold blen; rw [Int.natAbs_neg]

theorem blen_shl {a : Int} (h : a ≠ 0) (n : Nat) : blen (a * 2 ^ n) = blen a + n := by
  unfold blen
  rw [Int.natAbs_mul, Int.natAbs_pow]
  have h0 : a.natAbs ≠ 0 := by omega
  have h1 := lt_blenN a.natAbs
  have h2 := blenN_le a.natAbs h0
  have h3 : 0 < blenN a.natAbs := by unfold blenN; rw [if_neg h0]; omega
  refine blenN_unique ?_ (.inr ?_)
  · rw [Nat.pow_add]; exact Nat.mul_lt_mul_of_pos_right h1 (Nat.pow_pos (by decide))
  · rw [show blenN a.natAbs + n - 1 = (blenN a.natAbs - 1) + n by omega, Nat.pow_add]
    exact Nat.mul_le_mul_right _ h2

theorem IsZ.blen_le {L : Nat} {z : Int} {x : Value} {w : World} (h : IsZ L z x w) : blen z ≤ 64 * L := by
  obtain ⟨n, s, ws, _, hr, hl, rfl⟩ := h
  unfold blen
  rw [ival_abs, blenN_le_iff]
  have h1 := val_lt ws hr.1
  rw [pow64] at h1
  exact Nat.lt_of_lt_of_le h1 (Nat.pow_le_pow_right (by decide) (by omega))

theorem lsh_n (L : Nat) (z : Int) (s : Nat) (x : Value) (w : World) (h : IsZ L z x w) (hs : s ≤ 4096) (hL : L + 65 ≤ 17592186044416) : Calls Try.prog 13 #[x, .int .u64 (s : Nat)] w (ResR (IsC (L + 65) (z * 2 ^ s)) w) :=
  (lsh_z L z s x w h (by omega) (by omega)).mono fun e w' ⟨h1, y, h2, h3⟩ => ⟨h1, y, h2, h3.mono (by omega)⟩

end Go.Proofs.Ytdfknmplpjmemaa

