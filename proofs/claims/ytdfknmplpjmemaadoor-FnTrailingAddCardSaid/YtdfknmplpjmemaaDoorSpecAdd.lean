/- spec.add, spec.subtract: contracts (printed by gensa.py). -/
import Derived.Test.YtdfknmplpjmemaaDoorSpecUp
import Derived.Test.YtdfknmplpjmemaaDoorSpec2
set_option linter.unusedSimpArgs false
set_option linter.unusedVariables false
namespace Go.Proofs.YtdfknmplpjmemaaDoor
open Go.RowKit

def SumL (sub : Bool) (w : World) (a b : List Nat) (m : Nat) (v5 v6 v7 : Value) (wr : World) : Prop :=
  ∃ (k : Nat) (ws : List Nat) (c : Nat), k ≤ m ∧ v7 = .int .i64 (k : Nat) ∧ v6 = .int .u64 (c : Nat) ∧ c ≤ 1 ∧ ws.length = k ∧ Acc w.heap.size w ws v5 wr ∧
    (bif sub then val ws + val (b.take k) = val (a.take k) + 18446744073709551616 ^ k * c else val ws + 18446744073709551616 ^ k * c = val (a.take k) + val (b.take k))

theorem add_case {x y c : Nat} (hx : x < 18446744073709551616) (hy : y < 18446744073709551616) (hc : c ≤ 1) : ∃ s t d : Nat, IntKind.u64.wrap ((x : Int) + (y : Int)) = (s : Int) ∧ IntKind.u64.wrap ((s : Int) + (c : Int)) = (t : Int) ∧ s < 18446744073709551616 ∧ t < 18446744073709551616 ∧ d ≤ 1 ∧ t + 18446744073709551616 * d = x + y + c ∧ ((s < x ∧ d = 1) ∨ (¬ s < x ∧ t < s ∧ d = 1) ∨ (¬ s < x ∧ ¬ t < s ∧ d = 0)) := by
  refine ⟨(x + y) % 18446744073709551616, ((x + y) % 18446744073709551616 + c) % 18446744073709551616, (x + y + c) / 18446744073709551616, ?_, ?_, by omega, by omega, by omega, by omega, by omega⟩
  · rw [IntKind.wrap_u64]; omega
  · rw [IntKind.wrap_u64]; omega

theorem sub_case {x y c : Nat} (hx : x < 18446744073709551616) (hy : y < 18446744073709551616) (hc : c ≤ 1) : ∃ s t d : Nat, IntKind.u64.wrap ((x : Int) - (y : Int)) = (s : Int) ∧ IntKind.u64.wrap ((s : Int) - (c : Int)) = (t : Int) ∧ s < 18446744073709551616 ∧ t < 18446744073709551616 ∧ d ≤ 1 ∧ t + y + c = x + 18446744073709551616 * d ∧ ((x < y ∧ d = 1) ∨ (¬ x < y ∧ s < c ∧ d = 1) ∨ (¬ x < y ∧ ¬ s < c ∧ d = 0)) := by
  refine ⟨(x + 18446744073709551616 - y) % 18446744073709551616, ((x + 18446744073709551616 - y) % 18446744073709551616 + 18446744073709551616 - c) % 18446744073709551616, if x < y + c then 1 else 0, ?_, ?_, by omega, by omega, by split <;> omega, by split <;> omega, by split <;> omega⟩
  · rw [IntKind.wrap_u64]; omega
  · rw [IntKind.wrap_u64]; omega

set_option maxRecDepth 10000 in
set_option maxHeartbeats 2000000 in
theorem specSum_any (u v : Value) (a b : List Nat) (w : World) (L : Nat) (hua : Rd .u64 w u a) (hvb : Rd .u64 w v b) (hL : L + 1 ≤ 17592186044416) (hla : a.length ≤ L) (hlb : b.length ≤ L) :
    Calls Tryd.prog 22 #[u, v] w (SpecR (val a + val b) (L + 1) w) := by
  have hba : ∀ x ∈ a, x < 18446744073709551616 := hua.1
  have hbb : ∀ x ∈ b, x < 18446744073709551616 := hvb.1
  obtain ⟨aa, ca, rfl⟩ := hua.form
  obtain ⟨ab, cb, rfl⟩ := hvb.form
  have HA := Lib.hid hua
  have HBb := Lib.hid hvb
  have HBA := Lib.hid hba
  have HBB := Lib.hid hbb
  clear hua hvb hba hbb
  obtain ⟨i0, hi, hz0, hz1, hz2⟩ := info_parts infoUint
  have HI := Lib.hid hi
  have HI0 := Lib.hid hz0
  have HI1 := Lib.hid hz1
  have HI2 := Lib.hid hz2
  clear hi hz0 hz1 hz2
  obtain ⟨m, hm, hma, hmb, hmL⟩ : ∃ m : Nat, m = (if a.length < b.length then b.length else a.length) ∧ a.length ≤ m ∧ b.length ≤ m ∧ m ≤ L := ⟨_, rfl, by split <;> omega, by split <;> omega, by split <;> omega⟩
  by_cases hmx : a.length < b.length
  all_goals
    simp only [hmx, if_true, if_false] at hm
    go_enter Tryd.func22, Tryd.ntmps22
    go_wp2_with fail
    go_loopw [5, 6, 7] (fun v5 v6 v7 wr => SumL false w a b m v5 v6 v7 wr) (fun _ _ i _ => m - (intOf i).toNat)
    case atStart => exact ⟨0, [], 0, by omega, rfl, rfl, by omega, rfl, ⟨by simp, row_start .u64 _ _ _ _ rfl (Nat.le_refl _), (Below.refl _ _).alloc (Nat.le_refl _) _⟩, by simp [val]⟩
    case round =>
      obtain ⟨k, ws, c, hk, rfl, rfl, hc1, hwl, ⟨hab, hown, hbel⟩, hv⟩ := hrel
      rw [hwl] at hown
      simp only [cond_true, cond_false] at hv
      have HBEL := Lib.hid hbel
      have HAB := Lib.hid hab
      have HWL := Lib.hid hwl
      have HV := Lib.hid hv
      have hsz := hbel.size
      have hEX : Ext w wr := hbel
      have HEX := Lib.hid hEX
      clear hbel hab hwl hv hEX
      by_cases hlt : k < m
      · obtain ⟨x, hx⟩ : ∃ x, a.getD k 0 = x := ⟨_, rfl⟩
        obtain ⟨y, hy⟩ : ∃ y, b.getD k 0 = y := ⟨_, rfl⟩
        have hxlt : x < 18446744073709551616 := by rw [← hx]; exact getD_lt HBA.out (by omega) k
        have hylt : y < 18446744073709551616 := by rw [← hy]; exact getD_lt HBB.out (by omega) k
        have HX := Lib.hid hx
        have HY := Lib.hid hy
        obtain ⟨s, t, d, hws, hwt, hs, ht, hd, hsd, hcs⟩ := add_case hxlt hylt hc1
        have HSD := Lib.hid hsd
        clear hx hy hsd
        have hkt := hlt
        rw [hm] at hkt
        clear hm
        rcases hcs with hcs | hcs | hcs
        · obtain ⟨h1, rfl⟩ := hcs
          have q1 : decide (s < x) = true := by simp [h1]
          have q3 : decide ((s : Int) < (x : Int)) = true := by simp; omega
          go_wp2_with fail
          refine (word_any _ a k x _ (HA.out.ext HEX.out) (by omega) HX.out).mono ?_
          rintro e w1 ⟨rfl, rfl⟩
          go_wp2_with fail
          refine (word_any _ b k y _ (HBb.out.ext HEX.out) (by omega) HY.out).mono ?_
          rintro e w1 ⟨rfl, rfl⟩
          go_wp2_with fail
          refine (word_any _ a k x _ (HA.out.ext HEX.out) (by omega) HX.out).mono ?_
          rintro e w1 ⟨rfl, rfl⟩
          go_wp2_with (at_builtin; refine wpList_append_own _ rfl _ _ 22 rfl w.heap.size 26 i0 (.int .u64 0) 1 8 Tryd.underlying22 HI.out HI0.out HI1.out HI2.out rfl (by decide) _ _ _ rfl (hown.alloc _) ⟨wr.heap.size, 0, none⟩ 1 1 [.int .u64 (t : Nat)] rfl rfl (cell_one_new _ _ _) (by simp [Value.oneCell']) (by simp only [maxLen]; omega) (by omega) (by simp; omega) ?_)
          intro v' w1 hown' hgrow _
          have hbel1 := ((HBEL.out.alloc (by omega) (.cells #[.int .u64 (t : Nat)] 26)).grown hgrow (by simp; omega) (fun j hj => (hown.lt j hj).1))
          have hrel' : SumL false w a b m v' (.int .u64 ((1 : Nat) : Int)) (.int .i64 ((k + 1 : Nat) : Int)) w1 := by
            refine ⟨k + 1, ws ++ [t], 1, by omega, rfl, rfl, by omega, by simp [HWL.out], ⟨mem_snoc HAB.out ht, ?_, hbel1⟩, ?_⟩
            · rw [List.length_append, HWL.out, words_app]; exact hown'
            · exact add_step HWL.out HV.out HX.out HY.out HSD.out
          have HR := Lib.hid hrel'
          clear hrel' hown' hgrow hown hbel1
          go_wp2_with fail
          go_roundw
          case rel => exact HR.out
          case measure => simp [intOf]; omega
        · obtain ⟨h1, h2, rfl⟩ := hcs
          have q1 : decide (s < x) = false := by simp; omega
          have q3 : decide ((s : Int) < (x : Int)) = false := by simp; omega
          have q2 : decide (t < s) = true := by simp; omega
          have q4 : decide ((t : Int) < (s : Int)) = true := by simp; omega
          go_wp2_with fail
          refine (word_any _ a k x _ (HA.out.ext HEX.out) (by omega) HX.out).mono ?_
          rintro e w1 ⟨rfl, rfl⟩
          go_wp2_with fail
          refine (word_any _ b k y _ (HBb.out.ext HEX.out) (by omega) HY.out).mono ?_
          rintro e w1 ⟨rfl, rfl⟩
          go_wp2_with fail
          refine (word_any _ a k x _ (HA.out.ext HEX.out) (by omega) HX.out).mono ?_
          rintro e w1 ⟨rfl, rfl⟩
          go_wp2_with (at_builtin; refine wpList_append_own _ rfl _ _ 22 rfl w.heap.size 26 i0 (.int .u64 0) 1 8 Tryd.underlying22 HI.out HI0.out HI1.out HI2.out rfl (by decide) _ _ _ rfl (hown.alloc _) ⟨wr.heap.size, 0, none⟩ 1 1 [.int .u64 (t : Nat)] rfl rfl (cell_one_new _ _ _) (by simp [Value.oneCell']) (by simp only [maxLen]; omega) (by omega) (by simp; omega) ?_)
          intro v' w1 hown' hgrow _
          have hbel1 := ((HBEL.out.alloc (by omega) (.cells #[.int .u64 (t : Nat)] 26)).grown hgrow (by simp; omega) (fun j hj => (hown.lt j hj).1))
          have hrel' : SumL false w a b m v' (.int .u64 ((1 : Nat) : Int)) (.int .i64 ((k + 1 : Nat) : Int)) w1 := by
            refine ⟨k + 1, ws ++ [t], 1, by omega, rfl, rfl, by omega, by simp [HWL.out], ⟨mem_snoc HAB.out ht, ?_, hbel1⟩, ?_⟩
            · rw [List.length_append, HWL.out, words_app]; exact hown'
            · exact add_step HWL.out HV.out HX.out HY.out HSD.out
          have HR := Lib.hid hrel'
          clear hrel' hown' hgrow hown hbel1
          go_wp2_with fail
          go_roundw
          case rel => exact HR.out
          case measure => simp [intOf]; omega
        · obtain ⟨h1, h2, rfl⟩ := hcs
          have q1 : decide (s < x) = false := by simp; omega
          have q3 : decide ((s : Int) < (x : Int)) = false := by simp; omega
          have q2 : decide (t < s) = false := by simp; omega
          have q4 : decide ((t : Int) < (s : Int)) = false := by simp; omega
          go_wp2_with fail
          refine (word_any _ a k x _ (HA.out.ext HEX.out) (by omega) HX.out).mono ?_
          rintro e w1 ⟨rfl, rfl⟩
          go_wp2_with fail
          refine (word_any _ b k y _ (HBb.out.ext HEX.out) (by omega) HY.out).mono ?_
          rintro e w1 ⟨rfl, rfl⟩
          go_wp2_with fail
          refine (word_any _ a k x _ (HA.out.ext HEX.out) (by omega) HX.out).mono ?_
          rintro e w1 ⟨rfl, rfl⟩
          go_wp2_with (at_builtin; refine wpList_append_own _ rfl _ _ 22 rfl w.heap.size 26 i0 (.int .u64 0) 1 8 Tryd.underlying22 HI.out HI0.out HI1.out HI2.out rfl (by decide) _ _ _ rfl (hown.alloc _) ⟨wr.heap.size, 0, none⟩ 1 1 [.int .u64 (t : Nat)] rfl rfl (cell_one_new _ _ _) (by simp [Value.oneCell']) (by simp only [maxLen]; omega) (by omega) (by simp; omega) ?_)
          intro v' w1 hown' hgrow _
          have hbel1 := ((HBEL.out.alloc (by omega) (.cells #[.int .u64 (t : Nat)] 26)).grown hgrow (by simp; omega) (fun j hj => (hown.lt j hj).1))
          have hrel' : SumL false w a b m v' (.int .u64 ((0 : Nat) : Int)) (.int .i64 ((k + 1 : Nat) : Int)) w1 := by
            refine ⟨k + 1, ws ++ [t], 0, by omega, rfl, rfl, by omega, by simp [HWL.out], ⟨mem_snoc HAB.out ht, ?_, hbel1⟩, ?_⟩
            · rw [List.length_append, HWL.out, words_app]; exact hown'
            · exact add_step HWL.out HV.out HX.out HY.out HSD.out
          have HR := Lib.hid hrel'
          clear hrel' hown' hgrow hown hbel1
          go_wp2_with fail
          go_roundw
          case rel => exact HR.out
          case measure => simp [intOf]; omega
      · have hkt := hlt
        rw [hm] at hkt
        have HMM := Lib.hid hm
        clear hm
        obtain rfl : k = m := by omega
        have hvv : val (ws ++ [c]) = val a + val b := by
          have h := HV.out
          rw [List.take_of_length_le (by omega), List.take_of_length_le (by omega)] at h
          rw [val_snoc, HWL.out]; exact h
        have HVV := Lib.hid hvv
        clear hvv
        go_wp2_with (at_builtin; refine wpList_append_own _ rfl _ _ 22 rfl w.heap.size 26 i0 (.int .u64 0) 1 8 Tryd.underlying22 HI.out HI0.out HI1.out HI2.out rfl (by decide) _ _ _ rfl (hown.alloc _) ⟨wr.heap.size, 0, none⟩ 1 1 [.int .u64 (c : Nat)] rfl rfl (cell_one_new _ _ _) (by simp [Value.oneCell']) (by simp only [maxLen]; omega) (by omega) (by simp; omega) ?_)
        intro v' w1 hown' hgrow _
        have hbel1 := ((HBEL.out.alloc (by omega) (.cells #[.int .u64 (c : Nat)] 26)).grown hgrow (by simp; omega) (fun j hj => (hown.lt j hj).1))
        have hE : Ext w w1 := hbel1
        have hrd : Rd .u64 w1 v' (ws ++ [c]) := by
          refine ownsRow.read (base := w.heap.size) (E := 26) (n := k + 1) ?_ (mem_snoc HAB.out (by show c < 18446744073709551616; omega))
          rw [words_app]; exact hown'
        have HE := Lib.hid hE
        have HRD := Lib.hid hrd
        clear hown' hgrow hown hbel1 hE hrd
        go_wp2_with fail
        refine (trim_any _ _ _ HRD.out (by simp [HWL.out]; omega)).mono ?_
        rintro e w2 ⟨he, v2, rfl, ho⟩
        have HO := Lib.hid ho
        have HE2 := Lib.hid (HE.out.trans he)
        clear ho he
        go_wp2_with fail
        go_ret
        exact ⟨HE2.out, _, _, rfl, HO.out, norm_norm _, by rw [val_norm]; exact HVV.out, Nat.le_trans (norm_length_le _) (by simp [HWL.out]; omega)⟩

theorem sub_fin {ws a b : List Nat} {k c : Nat} (h : val ws + val (b.take k) = val a + 18446744073709551616 ^ k * c) (hge : val b ≤ val a) (hb : ∀ x ∈ ws, x < 18446744073709551616) (hl : ws.length = k) (hk : a.length ≤ k) (haa : ∀ x ∈ a, x < 18446744073709551616) : val ws = val a - val b := by
  have h1 := val_lt ws hb
  rw [hl] at h1
  have h2 := val_split b k
  have h3 : val (b.take k) ≤ val b := by omega
  have hc : c = 0 := by
    rcases Nat.eq_zero_or_pos c with h4 | h4
    · exact h4
    · have : 18446744073709551616 ^ k * 1 ≤ 18446744073709551616 ^ k * c := Nat.mul_le_mul_left _ h4
      omega
  subst hc
  have h5 := val_lt a haa
  have h6 : 18446744073709551616 ^ a.length ≤ 18446744073709551616 ^ k := Nat.pow_le_pow_right (by decide) hk
  have h7 : val (b.drop k) = 0 := by
    rcases Nat.eq_zero_or_pos (val (b.drop k)) with h8 | h8
    · exact h8
    · have : 18446744073709551616 ^ k * 1 ≤ 18446744073709551616 ^ k * val (b.drop k) := Nat.mul_le_mul_left _ h8
      omega
  rw [h7] at h2
  simp at h h2
  omega

set_option maxRecDepth 10000 in
set_option maxHeartbeats 2000000 in
theorem specSubtract_any (u v : Value) (a b : List Nat) (w : World) (L : Nat) (hua : Rd .u64 w u a) (hvb : Rd .u64 w v b) (hL : L + 1 ≤ 17592186044416) (hla : a.length ≤ L) (hlb : b.length ≤ L) (hge : val b ≤ val a) :
    Calls Tryd.prog 24 #[u, v] w (SpecR (val a - val b) (L + 1) w) := by
  have hba : ∀ x ∈ a, x < 18446744073709551616 := hua.1
  have hbb : ∀ x ∈ b, x < 18446744073709551616 := hvb.1
  obtain ⟨aa, ca, rfl⟩ := hua.form
  obtain ⟨ab, cb, rfl⟩ := hvb.form
  have HA := Lib.hid hua
  have HBb := Lib.hid hvb
  have HBA := Lib.hid hba
  have HBB := Lib.hid hbb
  clear hua hvb hba hbb
  obtain ⟨i0, hi, hz0, hz1, hz2⟩ := info_parts infoUint
  have HI := Lib.hid hi
  have HI0 := Lib.hid hz0
  have HI1 := Lib.hid hz1
  have HI2 := Lib.hid hz2
  clear hi hz0 hz1 hz2
  obtain ⟨m, hm⟩ : ∃ m, m = a.length := ⟨_, rfl⟩
  have hmL : m ≤ L := by omega
  have HMA : Hid (a.length ≤ m ∧ m = a.length) := Lib.hid ⟨by omega, hm⟩
  go_enter Tryd.func24, Tryd.ntmps24
  go_wp2_with fail
  go_loopw [5, 6, 7] (fun v5 v6 v7 wr => SumL true w a b m v5 v6 v7 wr) (fun _ _ i _ => m - (intOf i).toNat)
  case atStart => exact ⟨0, [], 0, by omega, rfl, rfl, by omega, rfl, ⟨by simp, row_start .u64 _ _ _ _ rfl (Nat.le_refl _), (Below.refl _ _).alloc (Nat.le_refl _) _⟩, by simp [val]⟩
  case round =>
    obtain ⟨k, ws, c, hk, rfl, rfl, hc1, hwl, ⟨hab, hown, hbel⟩, hv⟩ := hrel
    rw [hwl] at hown
    simp only [cond_true, cond_false] at hv
    have HBEL := Lib.hid hbel
    have HAB := Lib.hid hab
    have HWL := Lib.hid hwl
    have HV := Lib.hid hv
    have hsz := hbel.size
    have hEX : Ext w wr := hbel
    have HEX := Lib.hid hEX
    clear hbel hab hwl hv hEX
    by_cases hlt : k < m
    · obtain ⟨x, hx⟩ : ∃ x, a.getD k 0 = x := ⟨_, rfl⟩
      obtain ⟨y, hy⟩ : ∃ y, b.getD k 0 = y := ⟨_, rfl⟩
      have hxlt : x < 18446744073709551616 := by rw [← hx]; exact getD_lt HBA.out (by omega) k
      have hylt : y < 18446744073709551616 := by rw [← hy]; exact getD_lt HBB.out (by omega) k
      have HX := Lib.hid hx
      have HY := Lib.hid hy
      obtain ⟨s, t, d, hws, hwt, hs, ht, hd, hsd, hcs⟩ := sub_case hxlt hylt hc1
      have HSD := Lib.hid hsd
      clear hx hy hsd
      have hkt := hlt
      rw [hm] at hkt
      clear hm
      rcases hcs with hcs | hcs | hcs
      · obtain ⟨h1, rfl⟩ := hcs
        have q1 : decide (x < y) = true := by simp [h1]
        have q3 : decide ((x : Int) < (y : Int)) = true := by simp; omega
        go_wp2_with fail
        refine (word_any _ a k x _ (HA.out.ext HEX.out) (by omega) HX.out).mono ?_
        rintro e w1 ⟨rfl, rfl⟩
        go_wp2_with fail
        refine (word_any _ b k y _ (HBb.out.ext HEX.out) (by omega) HY.out).mono ?_
        rintro e w1 ⟨rfl, rfl⟩
        go_wp2_with fail
        refine (word_any _ a k x _ (HA.out.ext HEX.out) (by omega) HX.out).mono ?_
        rintro e w1 ⟨rfl, rfl⟩
        go_wp2_with fail
        refine (word_any _ b k y _ (HBb.out.ext HEX.out) (by omega) HY.out).mono ?_
        rintro e w1 ⟨rfl, rfl⟩
        go_wp2_with (at_builtin; refine wpList_append_own _ rfl _ _ 22 rfl w.heap.size 26 i0 (.int .u64 0) 1 8 Tryd.underlying22 HI.out HI0.out HI1.out HI2.out rfl (by decide) _ _ _ rfl (hown.alloc _) ⟨wr.heap.size, 0, none⟩ 1 1 [.int .u64 (t : Nat)] rfl rfl (cell_one_new _ _ _) (by simp [Value.oneCell']) (by simp only [maxLen]; omega) (by omega) (by simp; omega) ?_)
        intro v' w1 hown' hgrow _
        have hbel1 := ((HBEL.out.alloc (by omega) (.cells #[.int .u64 (t : Nat)] 26)).grown hgrow (by simp; omega) (fun j hj => (hown.lt j hj).1))
        have hrel' : SumL true w a b m v' (.int .u64 ((1 : Nat) : Int)) (.int .i64 ((k + 1 : Nat) : Int)) w1 := by
          refine ⟨k + 1, ws ++ [t], 1, by omega, rfl, rfl, by omega, by simp [HWL.out], ⟨mem_snoc HAB.out ht, ?_, hbel1⟩, ?_⟩
          · rw [List.length_append, HWL.out, words_app]; exact hown'
          · exact sub_step HWL.out HV.out HX.out HY.out HSD.out
        have HR := Lib.hid hrel'
        clear hrel' hown' hgrow hown hbel1
        go_wp2_with fail
        go_roundw
        case rel => exact HR.out
        case measure => simp [intOf]; omega
      · obtain ⟨h1, h2, rfl⟩ := hcs
        have q1 : decide (x < y) = false := by simp; omega
        have q3 : decide ((x : Int) < (y : Int)) = false := by simp; omega
        have q2 : decide (s < c) = true := by simp; omega
        have q4 : decide ((s : Int) < (c : Int)) = true := by simp; omega
        go_wp2_with fail
        refine (word_any _ a k x _ (HA.out.ext HEX.out) (by omega) HX.out).mono ?_
        rintro e w1 ⟨rfl, rfl⟩
        go_wp2_with fail
        refine (word_any _ b k y _ (HBb.out.ext HEX.out) (by omega) HY.out).mono ?_
        rintro e w1 ⟨rfl, rfl⟩
        go_wp2_with fail
        refine (word_any _ a k x _ (HA.out.ext HEX.out) (by omega) HX.out).mono ?_
        rintro e w1 ⟨rfl, rfl⟩
        go_wp2_with fail
        refine (word_any _ b k y _ (HBb.out.ext HEX.out) (by omega) HY.out).mono ?_
        rintro e w1 ⟨rfl, rfl⟩
        go_wp2_with (at_builtin; refine wpList_append_own _ rfl _ _ 22 rfl w.heap.size 26 i0 (.int .u64 0) 1 8 Tryd.underlying22 HI.out HI0.out HI1.out HI2.out rfl (by decide) _ _ _ rfl (hown.alloc _) ⟨wr.heap.size, 0, none⟩ 1 1 [.int .u64 (t : Nat)] rfl rfl (cell_one_new _ _ _) (by simp [Value.oneCell']) (by simp only [maxLen]; omega) (by omega) (by simp; omega) ?_)
        intro v' w1 hown' hgrow _
        have hbel1 := ((HBEL.out.alloc (by omega) (.cells #[.int .u64 (t : Nat)] 26)).grown hgrow (by simp; omega) (fun j hj => (hown.lt j hj).1))
        have hrel' : SumL true w a b m v' (.int .u64 ((1 : Nat) : Int)) (.int .i64 ((k + 1 : Nat) : Int)) w1 := by
          refine ⟨k + 1, ws ++ [t], 1, by omega, rfl, rfl, by omega, by simp [HWL.out], ⟨mem_snoc HAB.out ht, ?_, hbel1⟩, ?_⟩
          · rw [List.length_append, HWL.out, words_app]; exact hown'
          · exact sub_step HWL.out HV.out HX.out HY.out HSD.out
        have HR := Lib.hid hrel'
        clear hrel' hown' hgrow hown hbel1
        go_wp2_with fail
        go_roundw
        case rel => exact HR.out
        case measure => simp [intOf]; omega
      · obtain ⟨h1, h2, rfl⟩ := hcs
        have q1 : decide (x < y) = false := by simp; omega
        have q3 : decide ((x : Int) < (y : Int)) = false := by simp; omega
        have q2 : decide (s < c) = false := by simp; omega
        have q4 : decide ((s : Int) < (c : Int)) = false := by simp; omega
        go_wp2_with fail
        refine (word_any _ a k x _ (HA.out.ext HEX.out) (by omega) HX.out).mono ?_
        rintro e w1 ⟨rfl, rfl⟩
        go_wp2_with fail
        refine (word_any _ b k y _ (HBb.out.ext HEX.out) (by omega) HY.out).mono ?_
        rintro e w1 ⟨rfl, rfl⟩
        go_wp2_with fail
        refine (word_any _ a k x _ (HA.out.ext HEX.out) (by omega) HX.out).mono ?_
        rintro e w1 ⟨rfl, rfl⟩
        go_wp2_with fail
        refine (word_any _ b k y _ (HBb.out.ext HEX.out) (by omega) HY.out).mono ?_
        rintro e w1 ⟨rfl, rfl⟩
        go_wp2_with (at_builtin; refine wpList_append_own _ rfl _ _ 22 rfl w.heap.size 26 i0 (.int .u64 0) 1 8 Tryd.underlying22 HI.out HI0.out HI1.out HI2.out rfl (by decide) _ _ _ rfl (hown.alloc _) ⟨wr.heap.size, 0, none⟩ 1 1 [.int .u64 (t : Nat)] rfl rfl (cell_one_new _ _ _) (by simp [Value.oneCell']) (by simp only [maxLen]; omega) (by omega) (by simp; omega) ?_)
        intro v' w1 hown' hgrow _
        have hbel1 := ((HBEL.out.alloc (by omega) (.cells #[.int .u64 (t : Nat)] 26)).grown hgrow (by simp; omega) (fun j hj => (hown.lt j hj).1))
        have hrel' : SumL true w a b m v' (.int .u64 ((0 : Nat) : Int)) (.int .i64 ((k + 1 : Nat) : Int)) w1 := by
          refine ⟨k + 1, ws ++ [t], 0, by omega, rfl, rfl, by omega, by simp [HWL.out], ⟨mem_snoc HAB.out ht, ?_, hbel1⟩, ?_⟩
          · rw [List.length_append, HWL.out, words_app]; exact hown'
          · exact sub_step HWL.out HV.out HX.out HY.out HSD.out
        have HR := Lib.hid hrel'
        clear hrel' hown' hgrow hown hbel1
        go_wp2_with fail
        go_roundw
        case rel => exact HR.out
        case measure => simp [intOf]; omega
    · have hkt := hlt
      rw [hm] at hkt
      have HMM := Lib.hid hm
      clear hm
      obtain rfl : k = m := by omega
      have hvv : val ws = val a - val b := by
        have h := HV.out
        obtain ⟨h1, h2⟩ := HMA.out
        have hlen : b.take k = b.take k := rfl
        rw [List.take_of_length_le h1] at h
        exact sub_fin h hge HAB.out HWL.out (by omega) HBA.out
      have HVV := Lib.hid hvv
      clear hvv
      have hrd : Rd .u64 wr u5 ws := by
        refine ownsRow.read (base := w.heap.size) (E := 26) (n := k) hown HAB.out
      have HE := HEX
      have HRD := Lib.hid hrd
      obtain ⟨a5, c5, rfl⟩ := hrd.form
      clear hown hrd
      go_wp2_with fail
      refine (trim_any _ _ _ HRD.out (by rw [HWL.out]; omega)).mono ?_
      rintro e w2 ⟨he, v2, rfl, ho⟩
      have HO := Lib.hid ho
      have HE2 := Lib.hid (HE.out.trans he)
      clear ho he
      go_wp2_with fail
      go_ret
      exact ⟨HE2.out, _, _, rfl, HO.out, norm_norm _, by rw [val_norm]; exact HVV.out, Nat.le_trans (norm_length_le _) (by rw [HWL.out]; omega)⟩

end Go.Proofs.YtdfknmplpjmemaaDoor
