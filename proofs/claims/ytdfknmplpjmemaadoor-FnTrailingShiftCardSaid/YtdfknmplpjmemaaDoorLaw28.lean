/- FnTrailingShift (printed by lawgen.py). -/
import Derived.Test.YtdfknmplpjmemaaDoorTz
import Derived.Test.YtdfknmplpjmemaaDoorLshZ
import Derived.Test.YtdfknmplpjmemaaDoorAddZ
import Derived.Test.YtdfknmplpjmemaaDoorOf
import Derived.Test.YtdfknmplpjmemaaDoorCmp3
set_option linter.unusedSimpArgs false
set_option linter.unusedVariables false
namespace Go.Proofs.YtdfknmplpjmemaaDoor
open Go.RowKit

theorem tzI_spec {z : Int} (h : z ≠ 0) : ∃ m : Int, z = 2 ^ tzN z.natAbs * (2 * m + 1) := by
  obtain ⟨k, hk⟩ := tz_spec (v := z.natAbs) (by omega)
  generalize tzN z.natAbs = t at *
  have hz : (z.natAbs : Int) = 2 ^ t * (2 * (k : Int) + 1) := by rw [hk]; push_cast; rfl
  rcases (by omega : z < 0 ∨ 0 ≤ z) with h1 | h1
  · refine ⟨-(k : Int) - 1, ?_⟩
    have : z = -(z.natAbs : Int) := by omega
    rw [this, hz, ← Int.mul_neg]
    congr 1
    omega
  · refine ⟨k, ?_⟩
    have : z = (z.natAbs : Int) := by omega
    rw [this, hz]

theorem tzI_of {z m : Int} {n : Nat} (h : z = 2 ^ n * (2 * m + 1)) : tzN z.natAbs = n := by
  have h1 : z.natAbs = 2 ^ n * (2 * m + 1).natAbs := by
    rw [h, Int.natAbs_mul, Int.natAbs_pow]; rfl
  obtain ⟨k, hk⟩ : ∃ k, (2 * m + 1).natAbs = 2 * k + 1 := ⟨(2 * m + 1).natAbs / 2, by omega⟩
  rw [hk] at h1
  exact tz_of h1

theorem tz_neg (z : Int) : tzN (-z).natAbs = tzN z.natAbs := by rw [Int.natAbs_neg]

theorem tz_shl {z : Int} (h : z ≠ 0) (n : Nat) : tzN (z * 2 ^ n).natAbs = tzN z.natAbs + n := by
  obtain ⟨m, hm⟩ := tzI_spec h
  refine tzI_of (m := m) ?_
  conv => lhs; rw [hm]
  rw [Int.pow_add, Int.mul_assoc, Int.mul_assoc, Int.mul_comm (2 * m + 1)]

theorem tz_odd (z : Int) : tzN (z * 2 ^ 1 + 1).natAbs = 0 := tzI_of (m := z) (by rw [Int.pow_zero]; omega)

theorem tz_eight : tzN (8 : Int).natAbs = 3 := tzI_of (m := 0) (by decide)

theorem tz_add_lt {x y : Int} (hx : x ≠ 0) (hy : y ≠ 0) (h : tzN x.natAbs < tzN y.natAbs) : tzN (x + y).natAbs = tzN x.natAbs := by
  obtain ⟨m, hm⟩ := tzI_spec hx
  obtain ⟨k, hk⟩ := tzI_spec hy
  generalize tzN x.natAbs = a at *
  generalize tzN y.natAbs = b at *
  obtain ⟨d, rfl⟩ : ∃ d, b = a + (d + 1) := ⟨b - a - 1, by omega⟩
  refine tzI_of (m := m + 2 ^ d * (2 * k + 1)) ?_
  rw [hm, hk, Int.pow_add, Int.mul_assoc, ← Int.mul_add]
  congr 1
  rw [Int.pow_succ, Int.mul_comm (2 ^ d) 2, Int.mul_assoc]
  omega

theorem tz_add_ne {x y : Int} (hx : x ≠ 0) (hy : y ≠ 0) (h : tzN x.natAbs ≠ tzN y.natAbs) : tzN (x + y).natAbs = min (tzN x.natAbs) (tzN y.natAbs) := by
  rcases Nat.lt_or_ge (tzN x.natAbs) (tzN y.natAbs) with h1 | h1
  · rw [tz_add_lt hx hy h1, Nat.min_eq_left (by omega)]
  · rw [Int.add_comm, tz_add_lt hy hx (by omega), Nat.min_eq_right (by omega)]

theorem tz_add_eq {x y : Int} (hx : x ≠ 0) (hy : y ≠ 0) (h : tzN x.natAbs = tzN y.natAbs) (hs : x + y ≠ 0) : tzN x.natAbs < tzN (x + y).natAbs := by
  obtain ⟨m, hm⟩ := tzI_spec hx
  obtain ⟨k, hk⟩ := tzI_spec hy
  rw [← h] at hk
  generalize tzN x.natAbs = a at *
  have e : x + y = 2 ^ (a + 1) * (m + k + 1) := by
    rw [hm, hk, Int.pow_succ, ← Int.mul_add, Int.mul_assoc]
    congr 1
    omega
  have hn : m + k + 1 ≠ 0 := fun h0 => hs (by rw [e, h0, Int.mul_zero])
  obtain ⟨j, hj⟩ := tzI_spec hn
  have e2 : x + y = 2 ^ (a + 1 + tzN (m + k + 1).natAbs) * (2 * j + 1) := by
    rw [e, Int.pow_add 2 (a + 1), Int.mul_assoc]
    congr 1
  have := tzI_of e2
  omega

theorem tz_lt {v : Nat} (h : v ≠ 0) : tzN v < blenN v := by
  obtain ⟨m, hm⟩ := tz_spec h
  have h1 := lt_blenN v
  have h2 : 2 ^ tzN v ≤ v := by
    conv => rhs; rw [hm]
    exact Nat.le_mul_of_pos_right _ (by omega)
  exact (Nat.pow_lt_pow_iff_right (by decide : 1 < 2)).1 (Nat.lt_of_le_of_lt h2 h1)

theorem IsZ.tz_le {L : Nat} {z : Int} {x : Value} {w : World} (h : IsZ L z x w) : tzN z.natAbs ≤ 64 * L := by
  obtain ⟨nn, s, ws, _, hr, hl, hz⟩ := h
  have hvz : z.natAbs = val ws := by rw [← hz, ival_abs]
  have h1 : blenN z.natAbs ≤ 64 * ws.length := by rw [blenN_le_iff, hvz, ← pow64]; exact val_lt ws hr.1
  by_cases h0 : z.natAbs = 0
  · rw [h0, tz_zero]; omega
  · have := tz_lt h0; omega


set_option maxRecDepth 10000 in
set_option maxHeartbeats 2000000 in
theorem fnTrailingShift_y  (n0 : Bool) (v0 : Value) (ws0 : List Nat) (n : Nat) (w : World) (hr0 : Rd .u64 w v0 ws0) (hl0 : ws0.length ≤ 17592186043904) (ht : Tab64 w) (hn : n ≤ 4096) (hzc : ival n0 ws0 ≠ 0) :
    Calls Tryd.prog 4 #[.agg #[.bool n0, v0], .int .u64 (n : Nat)] w (ValR (.bool true) w) := by
  obtain ⟨a0, c0, rfl⟩ := hr0.form
  have hz0 : IsZ 17592186043904 (ival n0 ws0) (.agg #[.bool n0, .slice a0 ws0.length c0]) w := ⟨n0, _, ws0, rfl, hr0, hl0, rfl⟩
  have HR0 := Lib.hid hr0
  generalize hg0 : ival n0 ws0 = za at hz0
  have HZ0 := Lib.hid hz0
  have HG0 := Lib.hid hg0
  clear hz0 hg0 hr0
  have HZC := Lib.hid (show za ≠ 0 by rw [← HG0.out]; exact hzc)
  have HT := Lib.hid ht
  have htz : tzN (za).natAbs ≤ 64 * 17592186043904 := HZ0.out.tz_le
  have hb : decide ((4096 : Int) < (n : Int)) = false := by simp; omega
  clear hzc ht
  go_enter Tryd.func4, Tryd.ntmps4
  go_wp2_with fail
  have g0 := heap_alloc_new w (.cells #[.bool n0, .slice a0 ws0.length c0] 24)
  have hE0 : Ext w (w.alloc (.cells #[.bool n0, .slice a0 ws0.length c0] 24)) := Ext.alloc _ _
  have hsz3 : (w.alloc (.cells #[.bool n0, .slice a0 ws0.length c0] 24)).heap.size = w.heap.size + 1 := by simp
  generalize (w.alloc (.cells #[.bool n0, .slice a0 ws0.length c0] 24)) = w4 at *
  generalize hn0 : w4.heap.size = N0 at *
  have HE0 := Lib.hid hE0
  have G0 := Lib.hid g0
  have HSZ := Lib.hid hsz3
  clear g0 hE0 hsz3
  refine (zero_z 17592186043904 za _ _ (HZ0.out.ext HE0.out) (by omega)).mono ?_
  rintro e w5 ⟨he, y5, rfl, hy⟩
  obtain rfl : y5 = .bool false := hy.trans (by have := HZC.out; simp [this])
  have HE5 := Lib.hid (HE0.out.trans he)
  have Q5 := Lib.hid (he.block G0.out)
  have HT9 := Lib.hid (HT.out.ext HE5.out)
  clear he hy hb
  go_wp2_with fail
  refine wp_region_D preExt mixed [IsZ (17592186043904) (za), Is (.int .u64 (n : Nat)), IsC (17592186043969) ((za) * 2 ^ (n)), Is (.int .u64 (((tzN ((za) : Int).natAbs : Nat) : Int) + ((n : Nat) : Int))), IsZ (17592186043904) (za), Is (.int .u64 (tzN ((za) : Int).natAbs : Nat)), Is (.int .u64 (n : Nat)), Is (.int .u64 (((tzN ((za) : Int).natAbs : Nat) : Int) + ((n : Nat) : Int))), Is (.bool true), Is (.bool true), IsZ (17592186043904) (za), IsC (17592186043904) (-(za)), Is (.int .u64 (tzN ((za) : Int).natAbs : Nat)), IsZ (17592186043904) (za), Is (.int .u64 (tzN ((za) : Int).natAbs : Nat)), Is (.bool true), Is (.bool true), Is (.bool true), IsZ (17592186043904) (za), IsC (17592186043969) ((za) * 2 ^ (1)), IsW (1) (1), IsC (17592186043970) (((za) * 2 ^ (1)) + (1)), Is (.int .u64 0), Is (.bool true), Is (.bool true), Is (.bool true), IsW (1) (8), Is (.int .u64 3), Is (.bool true), Is (.bool true)] (by kernel_rfl) ?mono rfl ?steps ?last
  case mono =>
    simp only [List.forall_mem_cons, List.not_mem_nil, false_implies, implies_true, and_true]
    refine ⟨?_, ?_, ?_, ?_, ?_, ?_, ?_, ?_, ?_, ?_, ?_, ?_, ?_, ?_, ?_, ?_, ?_, ?_, ?_, ?_, ?_, ?_, ?_, ?_, ?_, ?_, ?_, ?_, ?_, ?_⟩
    all_goals first | exact fun _ _ _ _ q => q | exact fun _ _ _ he q => q.ext he
  case steps =>
    refine ⟨?_, ?_, ?_, ?_, ?_, ?_, ?_, ?_, ?_, ?_, ?_, ?_, ?_, ?_, ?_, ?_, ?_, ?_, ?_, ?_, ?_, ?_, ?_, ?_, ?_, ?_, ?_, ?_, ?_, ?_, trivial⟩
    all_goals
      intro u0 u1 u2 u3 u4 u5 u6 u7 u8 u9 u10 u11 u12 u13 u14 u15 u16 u17 u18 u19 u20 u21 u22 u23 u24 u25 u26 u27 u28 u29 u30 w1 he hk
      simp [KnownD, Oper.looksAt, Op.operands, Call.operands, List.findIdx?_cons, Act.put] at hk
      simp only [Act.put, List.setIfInBounds_toArray, List.set_cons_succ, List.set_cons_zero]
    · have hb := he.block Q5.out
      have q0 := blk_cell hb 0
      have q1 := blk_cell hb 1
      simp at q0 q1
      clear hb
      go_wp2_with fail
      exact ⟨rfl, Ext.refl _, HZ0.out.ext (HE5.out.trans he)⟩
    · go_wp2_with fail
      exact ⟨rfl, Ext.refl _, by show (_ : Value) = _; (first | rfl | simp); try rfl⟩
    · obtain ⟨k0, k1⟩ := hk
      obtain rfl : u1 = .int .u64 (n : Nat) := k1
      have H0 := Lib.hid k0
      clear k0
      go_wp2_with fail
      refine (lsh_n (17592186043904) (za) (n) _ _ (H0.out) (by omega) (by omega)).mono ?_
      rintro e w2 ⟨he2, x, rfl, hx⟩
      have HX := Lib.hid hx
      clear hx
      go_wp2_with fail
      exact ⟨rfl, he2, HX.out⟩
    · have k0 := hk
      have H0 : Hid (IsC (17592186043969) ((za) * 2 ^ (n)) u2 w1) := Lib.hid (by first | exact k0 | simpa using k0)
      clear k0
      go_wp2_with fail
      refine (trailing_z (17592186043969) ((za) * 2 ^ (n)) _ _ (H0.out.z) (by omega) (HT9.out.ext he)).mono ?_
      rintro e w2 ⟨he2, x, rfl, hx⟩
      obtain rfl : x = .int .u64 (((tzN ((za) : Int).natAbs : Nat) : Int) + ((n : Nat) : Int)) := hx.trans (by rw [tz_shl HZC.out]; first | rfl | simp)
      go_wp2_with fail
      exact ⟨rfl, he2, rfl⟩
    · have hb := he.block Q5.out
      have q0 := blk_cell hb 0
      have q1 := blk_cell hb 1
      simp at q0 q1
      clear hb
      go_wp2_with fail
      exact ⟨rfl, Ext.refl _, HZ0.out.ext (HE5.out.trans he)⟩
    · have k0 := hk
      have H0 := Lib.hid k0
      clear k0
      go_wp2_with fail
      refine (trailing_z (17592186043904) (za) _ _ (H0.out) (by omega) (HT9.out.ext he)).mono ?_
      rintro e w2 ⟨he2, x, rfl, hx⟩
      obtain rfl : x = .int .u64 (tzN ((za) : Int).natAbs : Nat) := hx
      go_wp2_with fail
      exact ⟨rfl, he2, rfl⟩
    · go_wp2_with fail
      exact ⟨rfl, Ext.refl _, by show (_ : Value) = _; (first | rfl | simp); try rfl⟩
    · obtain ⟨k0, k1⟩ := hk
      obtain rfl : u5 = .int .u64 (tzN ((za) : Int).natAbs : Nat) := k0
      obtain rfl : u6 = .int .u64 (n : Nat) := k1
      go_wp2_with fail
      exact ⟨rfl, Ext.refl _, by show (_ : Value) = _; (first | rfl | simp); try rfl⟩
    · obtain ⟨k0, k1⟩ := hk
      obtain rfl : u3 = .int .u64 (((tzN ((za) : Int).natAbs : Nat) : Int) + ((n : Nat) : Int)) := k0
      obtain rfl : u7 = .int .u64 (((tzN ((za) : Int).natAbs : Nat) : Int) + ((n : Nat) : Int)) := k1
      go_wp2_with fail
      exact ⟨rfl, Ext.refl _, by show (_ : Value) = _; (simp); try rfl⟩
    · have k0 := hk
      obtain rfl : u8 = .bool true := k0
      go_wp2_with fail
      exact ⟨rfl, Ext.refl _, by show (_ : Value) = _; (first | rfl | simp); try rfl⟩
    · have k0 := hk
      obtain rfl : u9 = .bool true := k0
      have hb := he.block Q5.out
      have q0 := blk_cell hb 0
      have q1 := blk_cell hb 1
      simp at q0 q1
      clear hb
      go_wp2_with fail
      exact ⟨rfl, Ext.refl _, HZ0.out.ext (HE5.out.trans he)⟩
    · obtain ⟨k0, k1⟩ := hk
      obtain rfl : u9 = .bool true := k1
      have H0 := Lib.hid k0
      clear k0
      go_wp2_with fail
      refine (neg_z (17592186043904) (za) _ _ (H0.out) (by omega)).mono ?_
      rintro e w2 ⟨he2, x, rfl, hx⟩
      have HX := Lib.hid hx
      clear hx
      go_wp2_with fail
      exact ⟨rfl, he2, HX.out⟩
    · obtain ⟨k0, k1⟩ := hk
      obtain rfl : u9 = .bool true := k1
      have H0 : Hid (IsC (17592186043904) (-(za)) u11 w1) := Lib.hid (by first | exact k0 | simpa using k0)
      clear k0
      go_wp2_with fail
      refine (trailing_z (17592186043904) (-(za)) _ _ (H0.out.z) (by omega) (HT9.out.ext he)).mono ?_
      rintro e w2 ⟨he2, x, rfl, hx⟩
      obtain rfl : x = .int .u64 (tzN ((za) : Int).natAbs : Nat) := hx.trans (by rw [tz_neg])
      go_wp2_with fail
      exact ⟨rfl, he2, rfl⟩
    · have k0 := hk
      obtain rfl : u9 = .bool true := k0
      have hb := he.block Q5.out
      have q0 := blk_cell hb 0
      have q1 := blk_cell hb 1
      simp at q0 q1
      clear hb
      go_wp2_with fail
      exact ⟨rfl, Ext.refl _, HZ0.out.ext (HE5.out.trans he)⟩
    · obtain ⟨k0, k1⟩ := hk
      obtain rfl : u9 = .bool true := k1
      have H0 := Lib.hid k0
      clear k0
      go_wp2_with fail
      refine (trailing_z (17592186043904) (za) _ _ (H0.out) (by omega) (HT9.out.ext he)).mono ?_
      rintro e w2 ⟨he2, x, rfl, hx⟩
      obtain rfl : x = .int .u64 (tzN ((za) : Int).natAbs : Nat) := hx
      go_wp2_with fail
      exact ⟨rfl, he2, rfl⟩
    · obtain ⟨k0, k1, k2⟩ := hk
      obtain rfl : u12 = .int .u64 (tzN ((za) : Int).natAbs : Nat) := k0
      obtain rfl : u14 = .int .u64 (tzN ((za) : Int).natAbs : Nat) := k1
      obtain rfl : u9 = .bool true := k2
      go_wp2_with fail
      exact ⟨rfl, Ext.refl _, by show (_ : Value) = _; (simp); try rfl⟩
    · obtain ⟨k0, k1⟩ := hk
      obtain rfl : u9 = .bool true := k0
      obtain rfl : u15 = .bool true := k1
      go_wp2_with fail
      exact ⟨rfl, Ext.refl _, by show (_ : Value) = _; (first | rfl | simp); try rfl⟩
    · have k0 := hk
      obtain rfl : u16 = .bool true := k0
      go_wp2_with fail
      exact ⟨rfl, Ext.refl _, by show (_ : Value) = _; (first | rfl | simp); try rfl⟩
    · have k0 := hk
      obtain rfl : u17 = .bool true := k0
      have hb := he.block Q5.out
      have q0 := blk_cell hb 0
      have q1 := blk_cell hb 1
      simp at q0 q1
      clear hb
      go_wp2_with fail
      exact ⟨rfl, Ext.refl _, HZ0.out.ext (HE5.out.trans he)⟩
    · obtain ⟨k0, k1⟩ := hk
      obtain rfl : u17 = .bool true := k1
      have H0 := Lib.hid k0
      clear k0
      go_wp2_with fail
      refine (lsh_n (17592186043904) (za) (1) _ _ (H0.out) (by omega) (by omega)).mono ?_
      rintro e w2 ⟨he2, x, rfl, hx⟩
      have HX := Lib.hid hx
      clear hx
      go_wp2_with fail
      exact ⟨rfl, he2, HX.out⟩
    · have k0 := hk
      obtain rfl : u17 = .bool true := k0
      go_wp2_with fail
      refine (of_z (1) _ (by decide) (by decide)).mono ?_
      rintro e w2 ⟨he2, x, rfl, hx⟩
      have HX := Lib.hid hx
      clear hx
      go_wp2_with fail
      exact ⟨rfl, he2, HX.out⟩
    · obtain ⟨k0, k1, k2⟩ := hk
      obtain rfl : u17 = .bool true := k2
      have H0 : Hid (IsC (17592186043969) ((za) * 2 ^ (1)) u19 w1) := Lib.hid (by first | exact k0 | simpa using k0)
      have H1 := Lib.hid k1
      clear k0 k1
      go_wp2_with fail
      refine (add_z (17592186043969) ((za) * 2 ^ (1)) (1) _ _ _ ((H0.out.z).mono (by omega)) ((H1.out.z).mono (by omega)) (by omega)).mono ?_
      rintro e w2 ⟨he2, x, rfl, hx⟩
      have HX := Lib.hid hx
      clear hx
      go_wp2_with fail
      exact ⟨rfl, he2, HX.out⟩
    · obtain ⟨k0, k1⟩ := hk
      obtain rfl : u17 = .bool true := k1
      have H0 : Hid (IsC (17592186043970) (((za) * 2 ^ (1)) + (1)) u21 w1) := Lib.hid (by first | exact k0 | simpa using k0)
      clear k0
      go_wp2_with fail
      refine (trailing_z (17592186043970) (((za) * 2 ^ (1)) + (1)) _ _ (H0.out.z) (by omega) (HT9.out.ext he)).mono ?_
      rintro e w2 ⟨he2, x, rfl, hx⟩
      obtain rfl : x = .int .u64 0 := hx.trans (by rw [tz_odd]; rfl)
      go_wp2_with fail
      exact ⟨rfl, he2, rfl⟩
    · obtain ⟨k0, k1⟩ := hk
      obtain rfl : u22 = .int .u64 0 := k0
      obtain rfl : u17 = .bool true := k1
      go_wp2_with fail
      exact ⟨rfl, Ext.refl _, by show (_ : Value) = _; (simp); try rfl⟩
    · obtain ⟨k0, k1⟩ := hk
      obtain rfl : u17 = .bool true := k0
      obtain rfl : u23 = .bool true := k1
      go_wp2_with fail
      exact ⟨rfl, Ext.refl _, by show (_ : Value) = _; (first | rfl | simp); try rfl⟩
    · have k0 := hk
      obtain rfl : u24 = .bool true := k0
      go_wp2_with fail
      exact ⟨rfl, Ext.refl _, by show (_ : Value) = _; (first | rfl | simp); try rfl⟩
    · have k0 := hk
      obtain rfl : u25 = .bool true := k0
      go_wp2_with fail
      refine (of_z (8) _ (by decide) (by decide)).mono ?_
      rintro e w2 ⟨he2, x, rfl, hx⟩
      have HX := Lib.hid hx
      clear hx
      go_wp2_with fail
      exact ⟨rfl, he2, HX.out⟩
    · obtain ⟨k0, k1⟩ := hk
      obtain rfl : u25 = .bool true := k1
      have H0 := Lib.hid k0
      clear k0
      go_wp2_with fail
      refine (trailing_z (1) (8) _ _ (H0.out.z) (by omega) (HT9.out.ext he)).mono ?_
      rintro e w2 ⟨he2, x, rfl, hx⟩
      obtain rfl : x = .int .u64 3 := hx.trans (by rw [tz_eight]; rfl)
      go_wp2_with fail
      exact ⟨rfl, he2, rfl⟩
    · obtain ⟨k0, k1⟩ := hk
      obtain rfl : u27 = .int .u64 3 := k0
      obtain rfl : u25 = .bool true := k1
      go_wp2_with fail
      exact ⟨rfl, Ext.refl _, by show (_ : Value) = _; (simp); try rfl⟩
    · obtain ⟨k0, k1⟩ := hk
      obtain rfl : u25 = .bool true := k0
      obtain rfl : u28 = .bool true := k1
      go_wp2_with fail
      exact ⟨rfl, Ext.refl _, by show (_ : Value) = _; (first | rfl | simp); try rfl⟩
  case last =>
    intro w1 he u0 h0 u1 h1 u2 h2 u3 h3 u4 h4 u5 h5 u6 h6 u7 h7 u8 h8 u9 h9 u10 h10 u11 h11 u12 h12 u13 h13 u14 h14 u15 h15 u16 h16 u17 h17 u18 h18 u19 h19 u20 h20 u21 h21 u22 h22 u23 h23 u24 h24 u25 h25 u26 h26 u27 h27 u28 h28 u29 h29
    obtain rfl : u29 = .bool true := h29
    clear h0 h1 h2 h3 h4 h5 h6 h7 h8 h9 h10 h11 h12 h13 h14 h15 h16 h17 h18 h19 h20 h21 h22 h23 h24 h25 h26 h27 h28
    simp only [LastD, Act.put, List.setIfInBounds_toArray, List.set_cons_succ, List.set_cons_zero]
    have HE := Lib.hid ((HE5.out).trans he)
    clear he
    go_wp2_with fail
    go_ret
    exact ⟨HE.out, rfl⟩

theorem fnTrailingShift_big (n0 : Bool) (v0 : Value) (ws0 : List Nat) (n : Nat) (w : World) (hr0 : Rd .u64 w v0 ws0) (hl0 : ws0.length ≤ 17592186043904) (hn : 4096 < n) :
    Calls Tryd.prog 4 #[.agg #[.bool n0, v0], .int .u64 (n : Nat)] w (ValR (.bool true) w) := by
  obtain ⟨a0, c0, rfl⟩ := hr0.form
  clear hr0
  have hb : decide ((4096 : Int) < (n : Int)) = true := by simp; omega
  go_enter Tryd.func4, Tryd.ntmps4
  go_wp2_with fail
  go_ret
  exact ⟨Ext.alloc _ _, rfl⟩

theorem fnTrailingShift_zero (n0 : Bool) (v0 : Value) (ws0 : List Nat) (n : Nat) (w : World) (hr0 : Rd .u64 w v0 ws0) (hl0 : ws0.length ≤ 17592186043904) (hn : n ≤ 4096) (hz : ival n0 ws0 = 0) :
    Calls Tryd.prog 4 #[.agg #[.bool n0, v0], .int .u64 (n : Nat)] w (ValR (.bool true) w) := by
  obtain ⟨a0, c0, rfl⟩ := hr0.form
  have hz0 : IsZ 17592186043904 0 (.agg #[.bool n0, .slice a0 ws0.length c0]) w := ⟨n0, _, ws0, rfl, hr0, hl0, hz⟩
  have HZ := Lib.hid hz0
  clear hr0 hz hz0
  have hb : decide ((4096 : Int) < (n : Int)) = false := by simp; omega
  go_enter Tryd.func4, Tryd.ntmps4
  go_wp2_with fail
  refine (zero_z 17592186043904 0 _ _ (HZ.out.ext (Ext.alloc _ _)) (by omega)).mono ?_
  rintro e w5 ⟨he, y5, rfl, hy⟩
  obtain rfl : y5 = .bool true := hy.trans (by simp)
  have HE := Lib.hid ((Ext.alloc _ _).trans he)
  clear he hy
  go_wp2_with fail
  go_ret
  exact ⟨HE.out, rfl⟩

theorem fnTrailingShift_walk (n0 : Bool) (v0 : Value) (ws0 : List Nat) (x : Int) (w : World) (ht : Tab64 w) (hr0 : Rd .u64 w v0 ws0) (hl0 : ws0.length ≤ 17592186043904) (hx : (Lit.int .u64 x).wf = true) :
    Calls Tryd.prog 4 #[.agg #[.bool n0, v0], .int .u64 x] w (ValR (.bool true) w) := by
  obtain ⟨n, rfl, hn⟩ := u64_nat hx
  by_cases h1 : n ≤ 4096
  · by_cases hz : ival n0 ws0 = 0
    · exact fnTrailingShift_zero n0 v0 ws0 n w hr0 hl0 h1 hz
    · exact fnTrailingShift_y n0 v0 ws0 n w hr0 hl0 ht h1 hz
  · exact fnTrailingShift_big n0 v0 ws0 n w hr0 hl0 (by omega)

end Go.Proofs.YtdfknmplpjmemaaDoor

