/- spec.Lsh, spec.Pow2, laws.power: contracts by values. -/
import Derived.Test.YtdodcmncdlnceaaSpecUp
import Derived.Test.YtdodcmncdlnceaaLev
import Derived.Test.YtdodcmncdlnceaaBitLen
set_option linter.unusedSimpArgs false
set_option linter.unusedVariables false
namespace Go.Proofs.Ytdodcmncdlnceaa
open Go.RowKit

/-- Words of value t as a value. -/
def IsV (t L : Nat) (v : Value) (w : World) : Prop := ∃ rs, Own .u64 w 0 32 v rs ∧ norm rs = rs ∧ val rs = t ∧ rs.length ≤ L

theorem IsV.ext {t L : Nat} {v : Value} {w w' : World} (h : IsV t L v w) (he : Ext w w') : IsV t L v w' := by
  obtain ⟨rs, h1, h2⟩ := h; exact ⟨rs, h1.ext he, h2⟩

theorem specInteger_v (n : Bool) (t L : Nat) (v : Value) (w : World) (h : IsV t L v w) (hL : L ≤ 17592186044416) :
    Calls Try.prog 35 #[.bool n, v] w (ResR (IsC L (bif n then -(t : Int) else (t : Int))) w) := by
  obtain ⟨rs, h1, h2, h3, h4⟩ := h
  rw [show (bif n then -(t : Int) else (t : Int)) = ival n rs by unfold ival; rw [h3]]
  exact (specInteger_any n v rs w h1.read (by omega)).mono fun e w' h => numC_of L h4 h

theorem ival_shl (n : Bool) (ws : List Nat) (s : Nat) : (bif n then -((val ws * 2 ^ s : Nat) : Int) else ((val ws * 2 ^ s : Nat) : Int)) = ival n ws * 2 ^ s := by
  cases n
  · simp [ival]
  · simp [ival, Int.neg_mul]

set_option maxHeartbeats 1000000 in
theorem specLsh_z (L : Nat) (z : Int) (s : Nat) (x : Value) (w : World) (h : IsZ L z x w) (hs : s < 18446744073709551616) (hL : L + s / 64 + 2 ≤ 17592186044416) :
    Calls Try.prog 17 #[x, .int .u64 (s : Nat)] w (ResR (IsC (L + s / 64 + 1) (z * 2 ^ s)) w) := by
  obtain ⟨n, sl, ws, rfl, hr, hl, rfl⟩ := h
  obtain ⟨a, c, rfl⟩ := hr.form
  rw [← ival_shl n ws s]
  generalize ht : val ws * 2 ^ s = t
  have HT := Lib.hid ht
  have HR := Lib.hid hr
  clear hr ht
  go_enter Try.func17, Try.ntmps17
  go_wp2_with fail
  refine wp_region_D preExt mixed [Is (.pointer (some ⟨w.heap.size, 0, none⟩)), Is (.bool n), Is (.pointer (some ⟨w.heap.size, 1, none⟩)), Is (.slice a ws.length c), Is (.int .u64 (s : Nat)), IsV t (L + s / 64 + 1), IsC (L + s / 64 + 1) (bif n then -(t : Int) else (t : Int))] (by kernel_rfl) ?mono rfl ?steps ?last
  case mono =>
    simp only [List.forall_mem_cons, List.not_mem_nil, false_implies, implies_true, and_true]
    refine ⟨?_, ?_, ?_, ?_, ?_, ?_, ?_⟩
    all_goals first | exact fun _ _ _ _ q => q | exact fun _ _ _ he q => q.ext he
  case steps =>
    refine ⟨?_, ?_, ?_, ?_, ?_, ?_, ?_, trivial⟩
    all_goals
      intro u0 u1 u2 u3 u4 u5 u6 u7 w1 he hk
      simp [KnownD, Oper.looksAt, Op.operands, Call.operands, List.findIdx?_cons, Act.put] at hk
      simp only [Act.put, List.setIfInBounds_toArray, List.set_cons_succ, List.set_cons_zero]
    · go_wp2_with fail
      exact ⟨rfl, Ext.refl _, rfl⟩
    · obtain rfl : u0 = _ := hk
      have hb := he.block ((Ext.alloc _ _).block (heap_alloc_new _ _))
      have hc0 := blk_cell hb 0
      simp at hc0
      clear hb
      go_wp2_with fail
      exact ⟨rfl, Ext.refl _, rfl⟩
    · go_wp2_with fail
      exact ⟨rfl, Ext.refl _, rfl⟩
    · obtain rfl : u2 = _ := hk
      have hb := he.block ((Ext.alloc _ _).block (heap_alloc_new _ _))
      have hc1 := blk_cell hb 1
      simp at hc1
      clear hb
      go_wp2_with fail
      exact ⟨rfl, Ext.refl _, rfl⟩
    · go_wp2_with fail
      exact ⟨rfl, Ext.refl _, rfl⟩
    · obtain ⟨k0, k1⟩ := hk
      obtain rfl : u3 = _ := k0
      obtain rfl : u4 = _ := k1
      have HE1 := Lib.hid (((Ext.alloc _ _).trans (Ext.alloc _ _)).trans he)
      clear he
      go_wp2_with fail
      refine (up_any _ ws s _ (HR.out.ext HE1.out) hs (by omega)).mono ?_
      rintro e w2 ⟨he2, v', rs, rfl, g1, g2, g3, g4⟩
      have G := Lib.hid (show IsV t (L + s / 64 + 1) v' w2 from ⟨rs, g1, g2, by rw [g3, HT.out], by omega⟩)
      clear g1 g2 g3
      go_wp2_with fail
      exact ⟨rfl, he2, G.out⟩
    · obtain ⟨k0, k1⟩ := hk
      obtain rfl : u1 = _ := k0
      have HK := Lib.hid k1
      clear k1
      go_wp2_with fail
      refine (specInteger_v n t (L + s / 64 + 1) _ _ HK.out (by omega)).mono ?_
      rintro e w2 ⟨he2, y, rfl, hy⟩
      have HY := Lib.hid hy
      clear hy
      go_wp2_with fail
      exact ⟨rfl, he2, HY.out⟩
  case last =>
    intro w1 he u0 h0 u1 h1 u2 h2 u3 h3 u4 h4 u5 h5 u6 h6
    have hy : IsC (L + s / 64 + 1) (bif n then -(t : Int) else (t : Int)) u6 w1 := h6
    clear h0 h1 h2 h3 h4 h5 h6
    obtain ⟨m, aa, ll, cc, rfl⟩ := hy.form
    have hp : w1.heap[w.heap.size + 1]? = some (.cells #[.bool false, .slice none 0 0] 29 (0, 0)) := he.block (heap_second _ _ _)
    have d0 := blk_cell hp 0
    have d1 := blk_cell hp 1
    have f0 := blk_free hp 0
    have f1 := blk_free hp 1
    simp at d0 d1
    have HP := Lib.hid hp
    have HY := Lib.hid hy
    have HE := Lib.hid (((Ext.alloc _ _).trans (Ext.alloc _ _)).trans he)
    clear hp hy he
    simp only [LastD, Act.put, List.setIfInBounds_toArray, List.set_cons_succ, List.set_cons_zero]
    go_wp2_with fail
    obtain ⟨e0, e1, hu⟩ := set2 HP.out (.bool m) (.slice aa ll cc)
    exact bodyPost_ret (results_spec rfl _ rfl e0 e1) rfl ⟨hu.ext HE.out (by omega), _, rfl, HY.out.upd HP.out (by decide) hu⟩

set_option maxHeartbeats 1000000 in
theorem pow2_z (n : Nat) (w : World) (hn : n / 64 + 3 ≤ 17592186044416) :
    Calls Try.prog 47 #[.int .i64 (n : Nat)] w (ResR (IsC (n / 64 + 2) (2 ^ n)) w) := by
  generalize hz : (2 : Int) ^ n = z
  have HZ := Lib.hid hz
  clear hz
  have hn0 : (0 : Int) ≤ (n : Int) := by omega
  go_enter Try.func47, Try.ntmps47
  go_wp2_with fail
  have hr : Rd .u64 ((w.alloc (.cells #[.bool false, .slice none 0 0] 29)).alloc (.cells #[.int .u64 1] 32)) (.slice (some ⟨w.heap.size + 1, 0, none⟩) 1 1) [1] := by
    refine ⟨by simp [lim], _, 1, rfl, by simp, by simp, by simp, fun i hi => ⟨_, _, rfl, ?_⟩⟩
    simp at hi
    subst hi
    rw [blk_cell (heap_second _ _ _)]
    rfl
  refine (up_any _ [1] n _ hr (by omega) (by simp; omega)).mono ?_
  rintro e w1 ⟨he, v', rs, rfl, g1, g2, g3, g4⟩
  have G := Lib.hid (show IsV (2 ^ n) (n / 64 + 2) v' w1 from ⟨rs, g1, g2, by rw [g3]; simp [val], by simp at g4; omega⟩)
  have hp : w1.heap[w.heap.size]? = some (.cells #[.bool false, .slice none 0 0] 29 (0, 0)) := he.block ((Ext.alloc _ _).block (heap_alloc_new _ _))
  have HP := Lib.hid hp
  have HE := Lib.hid (((Ext.alloc _ _).trans (Ext.alloc _ _)).trans he)
  clear g1 g2 g3 g4 he hp hr
  go_wp2_with fail
  refine (specInteger_v false (2 ^ n) (n / 64 + 2) _ _ G.out (by omega)).mono ?_
  rw [show (bif false then -((2 ^ n : Nat) : Int) else ((2 ^ n : Nat) : Int)) = z by rw [← HZ.out]; simp]
  rintro e w2 ⟨he, y, rfl, hy⟩
  obtain ⟨m, aa, ll, cc, rfl⟩ := hy.form
  have hp2 := he.block HP.out
  have d0 := blk_cell hp2 0
  have d1 := blk_cell hp2 1
  have f0 := blk_free hp2 0
  have f1 := blk_free hp2 1
  simp at d0 d1
  have HP2 := Lib.hid hp2
  have HY := Lib.hid hy
  have HE2 := Lib.hid (HE.out.trans he)
  clear hp2 hy he
  go_wp2_with fail
  obtain ⟨e0, e1, hu⟩ := set2 HP2.out (.bool m) (.slice aa ll cc)
  exact bodyPost_ret (results_spec rfl _ rfl e0 e1) rfl ⟨hu.ext HE2.out (by omega), _, rfl, HY.out.upd HP2.out (by decide) hu⟩

theorem power_z (n : Nat) (w : World) (hn : n / 64 + 3 ≤ 17592186044416) :
    Calls Try.prog 28 #[.int .u64 (n : Nat)] w (ResR (IsW (n / 64 + 2) (2 ^ n)) w) := by
  generalize hz : (2 : Int) ^ n = z
  have HZ := Lib.hid hz
  clear hz
  have hnl : n < 9223372036854775808 := by omega
  go_enter Try.func28, Try.ntmps28
  go_wp2_with fail
  refine (pow2_z n _ hn).mono ?_
  rw [HZ.out]
  rintro e w1 ⟨he, y, rfl, hy⟩
  have hp : w1.heap[w.heap.size]? = some (.cells #[.bool false, .slice none 0 0] 24 (0, 0)) := he.block (heap_alloc_new _ _)
  have HP := Lib.hid hp
  have HY := Lib.hid hy
  have HE := Lib.hid ((Ext.alloc _ _).trans he)
  clear hp hy he
  go_wp2_with fail
  refine (fromSpec_z _ _ _ _ HY.out.w).mono ?_
  rintro e w2 ⟨he, y2, rfl, hy⟩
  obtain ⟨m, aa, ll, cc, rfl⟩ := hy.form
  have hp2 := he.block HP.out
  have d0 := blk_cell hp2 0
  have d1 := blk_cell hp2 1
  have f0 := blk_free hp2 0
  have f1 := blk_free hp2 1
  simp at d0 d1
  have HP2 := Lib.hid hp2
  have HY2 := Lib.hid hy
  have HE2 := Lib.hid (HE.out.trans he)
  clear hp2 hy he
  go_wp2_with fail
  obtain ⟨e0, e1, hu⟩ := set2 HP2.out (.bool m) (.slice aa ll cc)
  exact bodyPost_ret (results_laws rfl _ rfl e0 e1) rfl ⟨hu.ext HE2.out (by omega), _, rfl, HY2.out.upd HP2.out (by decide) hu⟩

end Go.Proofs.Ytdodcmncdlnceaa
