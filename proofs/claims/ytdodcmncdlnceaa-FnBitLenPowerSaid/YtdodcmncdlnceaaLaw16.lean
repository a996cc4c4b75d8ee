/- FnBitLenPower (printed by lawgen.py). -/
import Derived.Test.YtdodcmncdlnceaaLshZ
import Derived.Test.YtdodcmncdlnceaaLaw11
import Derived.Test.YtdodcmncdlnceaaPow
import Derived.Test.YtdodcmncdlnceaaCmp3
import Derived.Test.YtdodcmncdlnceaaHelpers
set_option linter.unusedSimpArgs false
set_option linter.unusedVariables false
namespace Go.Proofs.Ytdodcmncdlnceaa
open Go.RowKit

theorem power_b (n : Nat) (w : World) (hn : n ≤ 1125899906809856) : Calls Try.prog 28 #[.int .u64 (n : Nat)] w (ResR (IsW 17592186043906 (2 ^ n)) w) :=
  (power_z n w (by omega)).mono fun e w' ⟨h1, y, h2, n0, s, ws, h3, h4, h5, h6⟩ => ⟨h1, y, h2, n0, s, ws, h3, h4, by omega, h6⟩

theorem blen_hi (a : Int) : (a.natAbs : Int) < 2 ^ blen a := by
  have := lt_blenN a.natAbs
  have h : ((a.natAbs : Nat) : Int) < ((2 ^ blenN a.natAbs : Nat) : Int) := by omega
  simpa [blen] using h

theorem blen_lo {a : Int} (h0 : a ≠ 0) : (2 : Int) ^ (blen a - 1) ≤ (a.natAbs : Int) := by
  have := blenN_le a.natAbs (by omega)
  have h : ((2 ^ (blenN a.natAbs - 1) : Nat) : Int) ≤ ((a.natAbs : Nat) : Int) := by omega
  simpa [blen] using h

theorem blen_pos {a : Int} (h0 : a ≠ 0) : 0 < blen a := by
  unfold blen blenN; rw [if_neg (by omega)]; omega

theorem cmpZ_ge {a b : Int} (h : b ≤ a) : 0 ≤ cmpZ a b := by
  rcases Int.lt_or_eq_of_le h with h | h
  · rw [cmpZ_gt h]; omega
  · rw [cmpZ_eq h.symm]; omega

set_option maxHeartbeats 1000000 in
theorem fnBitLenPower_z  (n0 : Bool) (v0 : Value) (ws0 : List Nat) (w : World) (hr0 : Rd .u64 w v0 ws0) (hl0 : ws0.length ≤ 17592186043904) (hc : ival n0 ws0 = 0) :
    Calls Try.prog 11 #[.agg #[.bool n0, v0]] w (ValR (.bool true) w) := by
  obtain ⟨a0, c0, rfl⟩ := hr0.form
  have hz0 : IsZ 17592186043904 (ival n0 ws0) (.agg #[.bool n0, .slice a0 ws0.length c0]) w := ⟨n0, _, ws0, rfl, hr0, hl0, rfl⟩
  generalize hg0 : ival n0 ws0 = a at hz0
  have HZ0 := Lib.hid hz0
  have HG0 := Lib.hid hg0
  clear hz0 hg0 hr0
  have HC : Hid (a = 0) := by rw [HG0.out] at hc; exact hc
  clear hc
  go_enter Try.func11, Try.ntmps11
  go_wp2_with fail
  refine (bitLen_z (17592186043904) (a) _ _ ((HZ0.out.ext (Ext.alloc _ _))) (by omega)).mono ?_
  rintro e w1 ⟨he, y1, rfl, hy⟩
  replace HZ0 := Lib.hid (HZ0.out.ext ((Ext.alloc _ _).trans he))
  have HE := Lib.hid ((Ext.alloc _ _).trans he)
  have hb := he.block (heap_alloc_new _ _)
  have cb00 := blk_cell hb 0
  have cb01 := blk_cell hb 1
  simp at cb00 cb01
  clear hb
  clear he
  obtain rfl : y1 = .int .i64 0 := hy.trans (by rw [show blen a = 0 by rw [HC.out]; rfl]; rfl)
  have cb00' := fun o => (Ext.alloc w1 o).cell cb00
  have cb01' := fun o => (Ext.alloc w1 o).cell cb01
  go_wp2_with fail
  refine (zero_z (17592186043904) (a) _ _ (HZ0.out) (by omega)).mono ?_
  rintro e w2 ⟨he, y2, rfl, hy⟩
  clear cb00' cb01'
  replace HZ0 := Lib.hid (HZ0.out.ext he)
  replace HE := Lib.hid (HE.out.trans he)
  replace cb00 := he.cell cb00
  replace cb01 := he.cell cb01
  clear he
  obtain rfl : y2 = .bool true := hy.trans (by have := HC.out; simp; omega)
  have cb00' := fun o => (Ext.alloc w2 o).cell cb00
  have cb01' := fun o => (Ext.alloc w2 o).cell cb01
  go_wp2_with fail
  go_ret
  exact ⟨HE.out, rfl⟩

set_option maxHeartbeats 1000000 in
theorem fnBitLenPower_n  (n0 : Bool) (v0 : Value) (ws0 : List Nat) (w : World) (hr0 : Rd .u64 w v0 ws0) (hl0 : ws0.length ≤ 17592186043904) (hc : ival n0 ws0 ≠ 0) :
    Calls Try.prog 11 #[.agg #[.bool n0, v0]] w (ValR (.bool true) w) := by
  obtain ⟨a0, c0, rfl⟩ := hr0.form
  have hz0 : IsZ 17592186043904 (ival n0 ws0) (.agg #[.bool n0, .slice a0 ws0.length c0]) w := ⟨n0, _, ws0, rfl, hr0, hl0, rfl⟩
  generalize hg0 : ival n0 ws0 = a at hz0
  have HZ0 := Lib.hid hz0
  have HG0 := Lib.hid hg0
  clear hz0 hg0 hr0
  have HC : Hid (a ≠ 0) := by rw [HG0.out] at hc; exact hc
  clear hc
  have hbl := HZ0.out.blen_le
  obtain ⟨m, hm⟩ : ∃ m, blen a = m + 1 := ⟨blen a - 1, by have := blen_pos HC.out; omega⟩
  have hlo := blen_lo HC.out
  have hhi := blen_hi a
  rw [hm] at hbl hlo hhi
  rw [Nat.add_sub_cancel] at hlo
  have HM := Lib.hid hm
  have HHI := Lib.hid (cmpZ_lt hhi)
  obtain ⟨r, hr, hr0⟩ : ∃ r, cmpZ ((a).natAbs : Int) (2 ^ m) = r ∧ 0 ≤ r := ⟨_, rfl, cmpZ_ge hlo⟩
  have HR := Lib.hid hr
  clear hm hlo hhi hr
  go_enter Try.func11, Try.ntmps11
  go_wp2_with fail
  refine (bitLen_z (17592186043904) (a) _ _ ((HZ0.out.ext (Ext.alloc _ _))) (by omega)).mono ?_
  rintro e w1 ⟨he, y1, rfl, hy⟩
  replace HZ0 := Lib.hid (HZ0.out.ext ((Ext.alloc _ _).trans he))
  have HE := Lib.hid ((Ext.alloc _ _).trans he)
  have hb := he.block (heap_alloc_new _ _)
  have cb00 := blk_cell hb 0
  have cb01 := blk_cell hb 1
  simp at cb00 cb01
  clear hb
  clear he
  obtain rfl : y1 = .int .i64 (m + 1 : Nat) := hy.trans (by rw [HM.out])
  have cb00' := fun o => (Ext.alloc w1 o).cell cb00
  have cb01' := fun o => (Ext.alloc w1 o).cell cb01
  go_wp2_with fail
  refine (zero_z (17592186043904) (a) _ _ (HZ0.out) (by omega)).mono ?_
  rintro e w2 ⟨he, y2, rfl, hy⟩
  clear cb00' cb01'
  replace HZ0 := Lib.hid (HZ0.out.ext he)
  replace HE := Lib.hid (HE.out.trans he)
  replace cb00 := he.cell cb00
  replace cb01 := he.cell cb01
  clear he
  obtain rfl : y2 = .bool false := hy.trans (by have := HC.out; simp; omega)
  have cb00' := fun o => (Ext.alloc w2 o).cell cb00
  have cb01' := fun o => (Ext.alloc w2 o).cell cb01
  go_wp2_with fail
  refine (abs_z (17592186043904) (a) _ _ (HZ0.out) (by omega)).mono ?_
  rintro e w3 ⟨he, y3, rfl, hy⟩
  clear cb00' cb01'
  replace HZ0 := Lib.hid (HZ0.out.ext he)
  replace HE := Lib.hid (HE.out.trans he)
  replace cb00 := he.cell cb00
  replace cb01 := he.cell cb01
  clear he
  have HY3 := Lib.hid hy
  clear hy
  obtain ⟨m3, aa3, ll3, cc3, rfl⟩ := HY3.out.form
  have cb00' := fun o => (Ext.alloc w3 o).cell cb00
  have cb01' := fun o => (Ext.alloc w3 o).cell cb01
  go_wp2_with fail
  refine (power_b (m + 1) _ (by omega)).mono ?_
  rintro e w4 ⟨he, y4, rfl, hy⟩
  clear cb00' cb01'
  replace HZ0 := Lib.hid (HZ0.out.ext he)
  replace HY3 := Lib.hid (HY3.out.ext he)
  replace HE := Lib.hid (HE.out.trans he)
  replace cb00 := he.cell cb00
  replace cb01 := he.cell cb01
  clear he
  have HY4 := Lib.hid hy
  clear hy
  obtain ⟨m4, aa4, ll4, cc4, rfl⟩ := HY4.out.form
  have cb00' := fun o => (Ext.alloc w4 o).cell cb00
  have cb01' := fun o => (Ext.alloc w4 o).cell cb01
  go_wp2_with fail
  refine (compare_z (17592186043904) (17592186043906) (((a).natAbs : Int)) (2 ^ (m + 1)) _ _ _ (HY3.out.z) (HY4.out.z) (by omega) (by omega)).mono ?_
  rintro e w5 ⟨he, y5, rfl, hy⟩
  clear cb00' cb01'
  replace HZ0 := Lib.hid (HZ0.out.ext he)
  replace HY3 := Lib.hid (HY3.out.ext he)
  replace HY4 := Lib.hid (HY4.out.ext he)
  replace HE := Lib.hid (HE.out.trans he)
  replace cb00 := he.cell cb00
  replace cb01 := he.cell cb01
  clear he
  obtain rfl : y5 = .int .i64 (-1) := hy.trans (by rw [HHI.out])
  have cb00' := fun o => (Ext.alloc w5 o).cell cb00
  have cb01' := fun o => (Ext.alloc w5 o).cell cb01
  go_wp2_with fail
  refine (abs_z (17592186043904) (a) _ _ (HZ0.out) (by omega)).mono ?_
  rintro e w6 ⟨he, y6, rfl, hy⟩
  clear cb00' cb01'
  replace HZ0 := Lib.hid (HZ0.out.ext he)
  replace HY3 := Lib.hid (HY3.out.ext he)
  replace HY4 := Lib.hid (HY4.out.ext he)
  replace HE := Lib.hid (HE.out.trans he)
  replace cb00 := he.cell cb00
  replace cb01 := he.cell cb01
  clear he
  have HY6 := Lib.hid hy
  clear hy
  obtain ⟨m6, aa6, ll6, cc6, rfl⟩ := HY6.out.form
  have cb00' := fun o => (Ext.alloc w6 o).cell cb00
  have cb01' := fun o => (Ext.alloc w6 o).cell cb01
  go_wp2_with fail
  refine (power_b (m) _ (by omega)).mono ?_
  rintro e w7 ⟨he, y7, rfl, hy⟩
  clear cb00' cb01'
  replace HZ0 := Lib.hid (HZ0.out.ext he)
  replace HY3 := Lib.hid (HY3.out.ext he)
  replace HY4 := Lib.hid (HY4.out.ext he)
  replace HY6 := Lib.hid (HY6.out.ext he)
  replace HE := Lib.hid (HE.out.trans he)
  replace cb00 := he.cell cb00
  replace cb01 := he.cell cb01
  clear he
  have HY7 := Lib.hid hy
  clear hy
  obtain ⟨m7, aa7, ll7, cc7, rfl⟩ := HY7.out.form
  have cb00' := fun o => (Ext.alloc w7 o).cell cb00
  have cb01' := fun o => (Ext.alloc w7 o).cell cb01
  go_wp2_with fail
  refine (compare_z (17592186043904) (17592186043906) (((a).natAbs : Int)) (2 ^ (m)) _ _ _ (HY6.out.z) (HY7.out.z) (by omega) (by omega)).mono ?_
  rintro e w8 ⟨he, y8, rfl, hy⟩
  clear cb00' cb01'
  replace HZ0 := Lib.hid (HZ0.out.ext he)
  replace HY3 := Lib.hid (HY3.out.ext he)
  replace HY4 := Lib.hid (HY4.out.ext he)
  replace HY6 := Lib.hid (HY6.out.ext he)
  replace HY7 := Lib.hid (HY7.out.ext he)
  replace HE := Lib.hid (HE.out.trans he)
  replace cb00 := he.cell cb00
  replace cb01 := he.cell cb01
  clear he
  obtain rfl : y8 = .int .i64 r := hy.trans (by rw [HR.out])
  have cb00' := fun o => (Ext.alloc w8 o).cell cb00
  have cb01' := fun o => (Ext.alloc w8 o).cell cb01
  go_wp2_with fail
  go_ret
  exact ⟨HE.out, rfl⟩

theorem fnBitLenPower_walk (n0 : Bool) (v0 : Value) (ws0 : List Nat) (w : World) (hr0 : Rd .u64 w v0 ws0) (hl0 : ws0.length ≤ 17592186043904) :
    Calls Try.prog 11 #[.agg #[.bool n0, v0]] w (ValR (.bool true) w) := by
  by_cases h : ival n0 ws0 = 0
  · exact fnBitLenPower_z n0 v0 ws0 w hr0 hl0 h
  · exact fnBitLenPower_n n0 v0 ws0 w hr0 hl0 h

end Go.Proofs.Ytdodcmncdlnceaa

