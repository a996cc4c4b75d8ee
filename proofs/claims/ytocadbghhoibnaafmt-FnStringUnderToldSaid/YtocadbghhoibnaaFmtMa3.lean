/- Base texts of the seat, merged: SpecAdd, SpecT, ScanB. -/
import Derived.Test.YtocadbghhoibnaaFmtMa2
import Derived.Test.YtocadbghhoibnaaFmtMa1
import Derived.Test.YtocadbghhoibnaaFmtM01
import Derived.Deep.CutBlock
set_option linter.unusedSimpArgs false
set_option linter.unusedVariables false

/- spec.add, spec.subtract: contracts (printed by gensa.py). -/
namespace Go.Proofs.YtocadbghhoibnaaFmt
open Go.RowKit

def SumL (sub : Bool) (w : World) (a b : List Nat) (m : Nat) (v5 v6 v7 : Value) (wr : World) : Prop :=
  ∃ (k : Nat) (ws : List Nat) (c : Nat), k ≤ m ∧ v7 = .int .i64 (k : Nat) ∧ v6 = .int .u64 (c : Nat) ∧ c ≤ 1 ∧ ws.length = k ∧ Acc w.heap.size w ws v5 wr ∧
    (bif sub then val ws + val (b.take k) = val (a.take k) + 18446744073709551616 ^ k * c else val ws + 18446744073709551616 ^ k * c = val (a.take k) + val (b.take k))

theorem add_case {x y c : Nat} (hx : x < 18446744073709551616) (hy : y < 18446744073709551616) (hc : c ≤ 1) : ∃ s t d : Nat, IntKind.u64.wrap ((x : Int) + (y : Int)) = (s : Int) ∧ IntKind.u64.wrap ((s : Int) + (c : Int)) = (t : Int) ∧ s < 18446744073709551616 ∧ t < 18446744073709551616 ∧ d ≤ 1 ∧ t + 18446744073709551616 * d = x + y + c ∧ ((s < x ∧ d = 1) ∨ (¬ s < x ∧ t < s ∧ d = 1) ∨ (¬ s < x ∧ ¬ t < s ∧ d = 0)) := by
  refine ⟨(x + y) % 18446744073709551616, ((x + y) % 18446744073709551616 + c) % 18446744073709551616, (x + y + c) / 18446744073709551616, ?_, ?_, by omega, by omega, by omega, by omega, by omega⟩
  · rw [IntKind.wrap_u64]; omega
  · rw [IntKind.wrap_u64]; omega

theorem sub_case {x y c : Nat} (hx : x < 18446744073709551616) (hy : y < 18446744073709551616) (hc : c ≤ 1) : ∃ s t d : Nat, IntKind.u64.wrap ((x : Int) - (y : Int)) = (s : Int) ∧ IntKind.u64.wrap ((s : Int) - (c : Int)) = (t : Int) ∧ s < 18446744073709551616 ∧ t < 18446744073709551616 ∧ d ≤ 1 ∧ t + y + c = x + 18446744073709551616 * d ∧ ((x < y ∧ d = 1) ∨ (¬ x < y ∧ s < c ∧ d = 1) ∨ (¬ x < y ∧ ¬ s < c ∧ d = 0)) := by
  refine ⟨(x + 18446744073709551616 - y) % 18446744073709551616, ((x + 18446744073709551616 - y) % 18446744073709551616 + 18446744073709551616 - c) % 18446744073709551616, if x < y + c then 1 else 0, ?_, ?_, by omega, by omega, by split <;> omega, by split <;> omega, by split <;> omega⟩
  · rw [IntKind.wrap_u64]; omega
  · rw [IntKind.wrap_u64]; omega

set_option maxRecDepth 10000 in
set_option maxHeartbeats 2000000 in
theorem specSum_any (u v : Value) (a b : List Nat) (w : World) (L : Nat) (hua : Rd .u64 w u a) (hvb : Rd .u64 w v b) (hL : L + 1 ≤ 17592186044416) (hla : a.length ≤ L) (hlb : b.length ≤ L) :
    Calls Tryf.prog 45 #[u, v] w (SpecR (val a + val b) (L + 1) w) := by
  have hba : ∀ x ∈ a, x < 18446744073709551616 := hua.1
  have hbb : ∀ x ∈ b, x < 18446744073709551616 := hvb.1
  obtain ⟨aa, ca, rfl⟩ := hua.form
  obtain ⟨ab, cb, rfl⟩ := hvb.form
  have HA := Lib.hid hua
  have HBb := Lib.hid hvb
  have HBA := Lib.hid hba
  have HBB := Lib.hid hbb
  clear hua hvb hba hbb
  obtain ⟨i0, hi, hz0, hz1, hz2⟩ := info_parts infoUint
  have HI := Lib.hid hi
  have HI0 := Lib.hid hz0
  have HI1 := Lib.hid hz1
  have HI2 := Lib.hid hz2
  clear hi hz0 hz1 hz2
  obtain ⟨m, hm, hma, hmb, hmL⟩ : ∃ m : Nat, m = (if a.length < b.length then b.length else a.length) ∧ a.length ≤ m ∧ b.length ≤ m ∧ m ≤ L := ⟨_, rfl, by split <;> omega, by split <;> omega, by split <;> omega⟩
  by_cases hmx : a.length < b.length
  all_goals
    simp only [hmx, if_true, if_false] at hm
    go_enter Tryf.func45, Tryf.ntmps45
    go_wp2_with fail
    go_loopw [5, 6, 7] (fun v5 v6 v7 wr => SumL false w a b m v5 v6 v7 wr) (fun _ _ i _ => m - (intOf i).toNat)
    case atStart => exact ⟨0, [], 0, by omega, rfl, rfl, by omega, rfl, ⟨by simp, row_start .u64 _ _ _ _ rfl (Nat.le_refl _), (Below.refl _ _).alloc (Nat.le_refl _) _⟩, by simp [val]⟩
    case round =>
      obtain ⟨k, ws, c, hk, rfl, rfl, hc1, hwl, ⟨hab, hown, hbel⟩, hv⟩ := hrel
      rw [hwl] at hown
      simp only [cond_true, cond_false] at hv
      have HBEL := Lib.hid hbel
      have HAB := Lib.hid hab
      have HWL := Lib.hid hwl
      have HV := Lib.hid hv
      have hsz := hbel.size
      have hEX : Ext w wr := hbel
      have HEX := Lib.hid hEX
      clear hbel hab hwl hv hEX
      by_cases hlt : k < m
      · obtain ⟨x, hx⟩ : ∃ x, a.getD k 0 = x := ⟨_, rfl⟩
        obtain ⟨y, hy⟩ : ∃ y, b.getD k 0 = y := ⟨_, rfl⟩
        have hxlt : x < 18446744073709551616 := by rw [← hx]; exact getD_lt HBA.out (by omega) k
        have hylt : y < 18446744073709551616 := by rw [← hy]; exact getD_lt HBB.out (by omega) k
        have HX := Lib.hid hx
        have HY := Lib.hid hy
        obtain ⟨s, t, d, hws, hwt, hs, ht, hd, hsd, hcs⟩ := add_case hxlt hylt hc1
        have HSD := Lib.hid hsd
        clear hx hy hsd
        have hkt := hlt
        rw [hm] at hkt
        clear hm
        rcases hcs with hcs | hcs | hcs
        · obtain ⟨h1, rfl⟩ := hcs
          have q1 : decide (s < x) = true := by simp [h1]
          have q3 : decide ((s : Int) < (x : Int)) = true := by simp; omega
          go_wp2_with fail
          refine (word_any _ a k x _ (HA.out.ext HEX.out) (by omega) HX.out).mono ?_
          rintro e w1 ⟨rfl, rfl⟩
          go_wp2_with fail
          refine (word_any _ b k y _ (HBb.out.ext HEX.out) (by omega) HY.out).mono ?_
          rintro e w1 ⟨rfl, rfl⟩
          go_wp2_with fail
          refine (word_any _ a k x _ (HA.out.ext HEX.out) (by omega) HX.out).mono ?_
          rintro e w1 ⟨rfl, rfl⟩
          go_wp2_with (at_builtin; refine wpList_append_own _ rfl _ _ 24 rfl w.heap.size 36 i0 (.int .u64 0) 1 8 Tryf.underlying24 HI.out HI0.out HI1.out HI2.out rfl (by decide) _ _ _ rfl (hown.alloc _) ⟨wr.heap.size, 0, none⟩ 1 1 [.int .u64 (t : Nat)] rfl rfl (cell_one_new _ _ _) (by simp [Value.oneCell']) (by simp only [maxLen]; omega) (by omega) (by simp; omega) ?_)
          intro v' w1 hown' hgrow _
          have hbel1 := ((HBEL.out.alloc (by omega) (.cells #[.int .u64 (t : Nat)] 36)).grown hgrow (by simp; omega) (fun j hj => (hown.lt j hj).1))
          have hrel' : SumL false w a b m v' (.int .u64 ((1 : Nat) : Int)) (.int .i64 ((k + 1 : Nat) : Int)) w1 := by
            refine ⟨k + 1, ws ++ [t], 1, by omega, rfl, rfl, by omega, by simp [HWL.out], ⟨mem_snoc HAB.out ht, ?_, hbel1⟩, ?_⟩
            · rw [List.length_append, HWL.out, words_app]; exact hown'
            · exact add_step HWL.out HV.out HX.out HY.out HSD.out
          have HR := Lib.hid hrel'
          clear hrel' hown' hgrow hown hbel1
          go_wp2_with fail
          go_roundw
          case rel => exact HR.out
          case measure => simp [intOf]; omega
        · obtain ⟨h1, h2, rfl⟩ := hcs
          have q1 : decide (s < x) = false := by simp; omega
          have q3 : decide ((s : Int) < (x : Int)) = false := by simp; omega
          have q2 : decide (t < s) = true := by simp; omega
          have q4 : decide ((t : Int) < (s : Int)) = true := by simp; omega
          go_wp2_with fail
          refine (word_any _ a k x _ (HA.out.ext HEX.out) (by omega) HX.out).mono ?_
          rintro e w1 ⟨rfl, rfl⟩
          go_wp2_with fail
          refine (word_any _ b k y _ (HBb.out.ext HEX.out) (by omega) HY.out).mono ?_
          rintro e w1 ⟨rfl, rfl⟩
          go_wp2_with fail
          refine (word_any _ a k x _ (HA.out.ext HEX.out) (by omega) HX.out).mono ?_
          rintro e w1 ⟨rfl, rfl⟩
          go_wp2_with (at_builtin; refine wpList_append_own _ rfl _ _ 24 rfl w.heap.size 36 i0 (.int .u64 0) 1 8 Tryf.underlying24 HI.out HI0.out HI1.out HI2.out rfl (by decide) _ _ _ rfl (hown.alloc _) ⟨wr.heap.size, 0, none⟩ 1 1 [.int .u64 (t : Nat)] rfl rfl (cell_one_new _ _ _) (by simp [Value.oneCell']) (by simp only [maxLen]; omega) (by omega) (by simp; omega) ?_)
          intro v' w1 hown' hgrow _
          have hbel1 := ((HBEL.out.alloc (by omega) (.cells #[.int .u64 (t : Nat)] 36)).grown hgrow (by simp; omega) (fun j hj => (hown.lt j hj).1))
          have hrel' : SumL false w a b m v' (.int .u64 ((1 : Nat) : Int)) (.int .i64 ((k + 1 : Nat) : Int)) w1 := by
            refine ⟨k + 1, ws ++ [t], 1, by omega, rfl, rfl, by omega, by simp [HWL.out], ⟨mem_snoc HAB.out ht, ?_, hbel1⟩, ?_⟩
            · rw [List.length_append, HWL.out, words_app]; exact hown'
            · exact add_step HWL.out HV.out HX.out HY.out HSD.out
          have HR := Lib.hid hrel'
          clear hrel' hown' hgrow hown hbel1
          go_wp2_with fail
          go_roundw
          case rel => exact HR.out
          case measure => simp [intOf]; omega
        · obtain ⟨h1, h2, rfl⟩ := hcs
          have q1 : decide (s < x) = false := by simp; omega
          have q3 : decide ((s : Int) < (x : Int)) = false := by simp; omega
          have q2 : decide (t < s) = false := by simp; omega
          have q4 : decide ((t : Int) < (s : Int)) = false := by simp; omega
          go_wp2_with fail
          refine (word_any _ a k x _ (HA.out.ext HEX.out) (by omega) HX.out).mono ?_
          rintro e w1 ⟨rfl, rfl⟩
          go_wp2_with fail
          refine (word_any _ b k y _ (HBb.out.ext HEX.out) (by omega) HY.out).mono ?_
          rintro e w1 ⟨rfl, rfl⟩
          go_wp2_with fail
          refine (word_any _ a k x _ (HA.out.ext HEX.out) (by omega) HX.out).mono ?_
          rintro e w1 ⟨rfl, rfl⟩
          go_wp2_with (at_builtin; refine wpList_append_own _ rfl _ _ 24 rfl w.heap.size 36 i0 (.int .u64 0) 1 8 Tryf.underlying24 HI.out HI0.out HI1.out HI2.out rfl (by decide) _ _ _ rfl (hown.alloc _) ⟨wr.heap.size, 0, none⟩ 1 1 [.int .u64 (t : Nat)] rfl rfl (cell_one_new _ _ _) (by simp [Value.oneCell']) (by simp only [maxLen]; omega) (by omega) (by simp; omega) ?_)
          intro v' w1 hown' hgrow _
          have hbel1 := ((HBEL.out.alloc (by omega) (.cells #[.int .u64 (t : Nat)] 36)).grown hgrow (by simp; omega) (fun j hj => (hown.lt j hj).1))
          have hrel' : SumL false w a b m v' (.int .u64 ((0 : Nat) : Int)) (.int .i64 ((k + 1 : Nat) : Int)) w1 := by
            refine ⟨k + 1, ws ++ [t], 0, by omega, rfl, rfl, by omega, by simp [HWL.out], ⟨mem_snoc HAB.out ht, ?_, hbel1⟩, ?_⟩
            · rw [List.length_append, HWL.out, words_app]; exact hown'
            · exact add_step HWL.out HV.out HX.out HY.out HSD.out
          have HR := Lib.hid hrel'
          clear hrel' hown' hgrow hown hbel1
          go_wp2_with fail
          go_roundw
          case rel => exact HR.out
          case measure => simp [intOf]; omega
      · have hkt := hlt
        rw [hm] at hkt
        have HMM := Lib.hid hm
        clear hm
        obtain rfl : k = m := by omega
        have hvv : val (ws ++ [c]) = val a + val b := by
          have h := HV.out
          rw [List.take_of_length_le (by omega), List.take_of_length_le (by omega)] at h
          rw [val_snoc, HWL.out]; exact h
        have HVV := Lib.hid hvv
        clear hvv
        go_wp2_with (at_builtin; refine wpList_append_own _ rfl _ _ 24 rfl w.heap.size 36 i0 (.int .u64 0) 1 8 Tryf.underlying24 HI.out HI0.out HI1.out HI2.out rfl (by decide) _ _ _ rfl (hown.alloc _) ⟨wr.heap.size, 0, none⟩ 1 1 [.int .u64 (c : Nat)] rfl rfl (cell_one_new _ _ _) (by simp [Value.oneCell']) (by simp only [maxLen]; omega) (by omega) (by simp; omega) ?_)
        intro v' w1 hown' hgrow _
        have hbel1 := ((HBEL.out.alloc (by omega) (.cells #[.int .u64 (c : Nat)] 36)).grown hgrow (by simp; omega) (fun j hj => (hown.lt j hj).1))
        have hE : Ext w w1 := hbel1
        have hrd : Rd .u64 w1 v' (ws ++ [c]) := by
          refine ownsRow.read (base := w.heap.size) (E := 36) (n := k + 1) ?_ (mem_snoc HAB.out (by show c < 18446744073709551616; omega))
          rw [words_app]; exact hown'
        have HE := Lib.hid hE
        have HRD := Lib.hid hrd
        clear hown' hgrow hown hbel1 hE hrd
        go_wp2_with fail
        refine (trim_any _ _ _ HRD.out (by simp [HWL.out]; omega)).mono ?_
        rintro e w2 ⟨he, v2, rfl, ho⟩
        have HO := Lib.hid ho
        have HE2 := Lib.hid (HE.out.trans he)
        clear ho he
        go_wp2_with fail
        go_ret
        exact ⟨HE2.out, _, _, rfl, HO.out, norm_norm _, by rw [val_norm]; exact HVV.out, Nat.le_trans (norm_length_le _) (by simp [HWL.out]; omega)⟩

theorem sub_fin {ws a b : List Nat} {k c : Nat} (h : val ws + val (b.take k) = val a + 18446744073709551616 ^ k * c) (hge : val b ≤ val a) (hb : ∀ x ∈ ws, x < 18446744073709551616) (hl : ws.length = k) (hk : a.length ≤ k) (haa : ∀ x ∈ a, x < 18446744073709551616) : val ws = val a - val b := by
  have h1 := val_lt ws hb
  rw [hl] at h1
  have h2 := val_split b k
  have h3 : val (b.take k) ≤ val b := by omega
  have hc : c = 0 := by
    rcases Nat.eq_zero_or_pos c with h4 | h4
    · exact h4
    · have : 18446744073709551616 ^ k * 1 ≤ 18446744073709551616 ^ k * c := Nat.mul_le_mul_left _ h4
      omega
  subst hc
  have h5 := val_lt a haa
  have h6 : 18446744073709551616 ^ a.length ≤ 18446744073709551616 ^ k := Nat.pow_le_pow_right (by decide) hk
  have h7 : val (b.drop k) = 0 := by
    rcases Nat.eq_zero_or_pos (val (b.drop k)) with h8 | h8
    · exact h8
    · have : 18446744073709551616 ^ k * 1 ≤ 18446744073709551616 ^ k * val (b.drop k) := Nat.mul_le_mul_left _ h8
      omega
  rw [h7] at h2
  simp at h h2
  omega

end Go.Proofs.YtocadbghhoibnaaFmt

/- spec.IsBase, Signed, Bare, prefix, digit, times: contracts. -/
namespace Go.Proofs.YtocadbghhoibnaaFmt
open Go.RowKit

def BoolR (P : Bool → Prop) (w : World) (e : Ending) (w' : World) : Prop := ∃ b, e = .returned (.bool b) ∧ P b ∧ w = w'

def isBase (n : Int) : Bool := decide (n = 0 ∨ 2 ≤ n ∧ n ≤ 62)

theorem isBase_any (n : Int) (w : World) :
    Calls Tryf.prog 25 #[.int .i64 n] w fun e w' => e = .returned (.bool (isBase n)) ∧ w = w' := by
  obtain ⟨B, hB⟩ : ∃ B, isBase n = B := ⟨_, rfl⟩
  rw [hB]
  have HB := Lib.hid hB
  clear hB
  by_cases h0 : n = 0
  · subst h0
    obtain rfl : B = true := by rw [← HB.out]; rfl
    go_enter Tryf.func25, Tryf.ntmps25
    go_wp2_with fail
    go_ret
    exact ⟨rfl, rfl⟩
  · have e0 : (n == 0) = false := by simpa using h0
    by_cases h2 : 2 ≤ n
    · have e2 : decide (2 ≤ n) = true := decide_eq_true h2
      by_cases h62 : n ≤ 62
      · have e62 : decide (n ≤ 62) = true := decide_eq_true h62
        obtain rfl : B = true := by rw [← HB.out]; unfold isBase; exact decide_eq_true (by omega)
        go_enter Tryf.func25, Tryf.ntmps25
        go_wp2_with fail
        go_ret
        exact ⟨rfl, rfl⟩
      · have e62 : decide (n ≤ 62) = false := decide_eq_false h62
        obtain rfl : B = false := by rw [← HB.out]; unfold isBase; exact decide_eq_false (by omega)
        go_enter Tryf.func25, Tryf.ntmps25
        go_wp2_with fail
        go_ret
        exact ⟨rfl, rfl⟩
    · have e2 : decide (2 ≤ n) = false := decide_eq_false h2
      obtain rfl : B = false := by rw [← HB.out]; unfold isBase; exact decide_eq_false (by omega)
      go_enter Tryf.func25, Tryf.ntmps25
      go_wp2_with fail
      go_ret
      exact ⟨rfl, rfl⟩

/-- A sign stands ahead. -/
def sgd : List Nat → Bool
  | 45 :: _ => true
  | 43 :: _ => true
  | _ => false

theorem sgd_false {l : List Nat} (h : sgd l = false) : unsg l := by
  intro t
  constructor
  · rintro rfl; cases h
  · rintro rfl; cases h

theorem sgd_other {c : Nat} {l : List Nat} (h1 : c ≠ 45) (h2 : c ≠ 43) : sgd (c :: l) = false := by
  unfold sgd
  split
  · rename_i hq; exact absurd (List.cons.inj hq).1 h1
  · rename_i hq; exact absurd (List.cons.inj hq).1 h2
  · rfl

theorem signed_any (s : ByteArray) (w : World) (hs : s.size ≤ 9223372036854775807) :
    Calls Tryf.prog 21 #[.string s] w fun e w' => e = .returned (.bool (sgd (bts s 0))) ∧ w = w' := by
  by_cases h0 : 0 < s.size
  · have hc := bts_cons h0
    obtain ⟨B, hB⟩ : ∃ B, sgd (bts s 0) = B := ⟨_, rfl⟩
    rw [hB]
    rw [hc] at hB
    have HB := Lib.hid hB
    clear hB hc
    have e0 : decide (0 < s.size) = true := decide_eq_true h0
    by_cases h45 : s[0].toNat = 45
    · have e45 : ((s[0].toNat : Int) == 45) = true := by rw [h45]; rfl
      obtain rfl : B = true := by rw [← HB.out, h45]; rfl
      clear h45
      go_enter Tryf.func21, Tryf.ntmps21
      go_wp2_with fail
      go_ret
      exact ⟨rfl, rfl⟩
    · have e45 : ((s[0].toNat : Int) == 45) = false := by rw [beq_eq_false_iff_ne]; omega
      by_cases h43 : s[0].toNat = 43
      · have e43 : ((s[0].toNat : Int) == 43) = true := by rw [h43]; rfl
        obtain rfl : B = true := by rw [← HB.out, h43]; rfl
        clear h45 h43
        go_enter Tryf.func21, Tryf.ntmps21
        go_wp2_with fail
        go_ret
        exact ⟨rfl, rfl⟩
      · have e43 : ((s[0].toNat : Int) == 43) = false := by rw [beq_eq_false_iff_ne]; omega
        obtain rfl : B = false := by rw [← HB.out]; exact sgd_other h45 h43
        clear h45 h43
        go_enter Tryf.func21, Tryf.ntmps21
        go_wp2_with fail
        go_ret
        exact ⟨rfl, rfl⟩
  · rw [bts_nil (by omega)]
    have e0 : decide (0 < s.size) = false := decide_eq_false h0
    go_enter Tryf.func21, Tryf.ntmps21
    go_wp2_with fail
    go_ret
    exact ⟨rfl, rfl⟩

theorem bts_tail (s : ByteArray) (k : Nat) (hk : k ≤ s.size) (i : Nat) : bts (s.extract k s.size) i = bts s (k + i) := by
  unfold bts
  have h1 : (s.extract k s.size).data.toList = s.data.toList.drop k := by
    rw [ByteArray.data_extract, Array.toList_extract, List.extract_eq_take_drop, List.take_of_length_le]
    rw [List.length_drop, Array.length_toList]; exact Nat.le_refl _
  rw [h1, List.drop_drop]

theorem size_tail (s : ByteArray) (k : Nat) (hk : k ≤ s.size) : (s.extract k s.size).size = s.size - k := by
  have := bts_len (s.extract k s.size) 0
  rw [bts_tail s k hk, bts_len] at this
  omega

/-- What a text begins with. -/
theorem prefix_any (s : ByteArray) (b n : Nat) (w : World) (hs : s.size ≤ 9223372036854775807) (hp : pfx (bts s 0) = (b, n)) :
    Calls Tryf.prog 43 #[.string s] w fun e w' => e = .returned (.tuple #[.int .i64 (b : Nat), .int .i64 (n : Nat)]) ∧ w = w' := by
  by_cases h2 : s.size < 2
  · have e2 : decide (s.size < 2) = true := decide_eq_true h2
    have hb : (b, n) = (10, 0) := by
      rw [← hp]
      by_cases h0 : 0 < s.size
      · rw [bts_cons h0, bts_nil (by omega)]
        unfold pfx; split <;> simp_all
      · rw [bts_nil (by omega)]; rfl
    obtain ⟨rfl, rfl⟩ := Prod.mk.inj hb
    clear hp hb
    go_enter Tryf.func43, Tryf.ntmps43
    go_wp2_with fail
    go_ret2
    exact ⟨rfl, rfl⟩
  · have e2 : decide (s.size < 2) = false := decide_eq_false h2
    have h0 : 0 < s.size := by omega
    have h1 : 1 < s.size := by omega
    rw [bts_cons h0, bts_cons h1] at hp
    have HP := Lib.hid hp
    clear hp h2
    by_cases h48 : s[0].toNat = 48
    · have e48 : ((s[0].toNat : Int) != 48) = false := by rw [h48]; rfl
      have e48' : ((s[0].toNat : Int) == 48) = true := by rw [h48]; rfl
      have hp2 := HP.out
      rw [h48, pfx] at hp2
      have HP2 := Lib.hid hp2
      clear hp2 h48
      by_cases k98 : s[1].toNat = 98
      · have e98 : ((s[1].toNat : Int) == 98) = true := by rw [k98]; rfl
        have hb : (b, n) = (2, 2) := by rw [← HP2.out, k98]; rfl
        obtain ⟨rfl, rfl⟩ := Prod.mk.inj hb
        clear hb k98
        go_enter Tryf.func43, Tryf.ntmps43
        go_wp2_with fail
        go_ret2
        exact ⟨rfl, rfl⟩
      have e98 : ((s[1].toNat : Int) == 98) = false := by rw [beq_eq_false_iff_ne]; omega
      by_cases k66 : s[1].toNat = 66
      · have e66 : ((s[1].toNat : Int) == 66) = true := by rw [k66]; rfl
        have hb : (b, n) = (2, 2) := by rw [← HP2.out, k66]; rfl
        obtain ⟨rfl, rfl⟩ := Prod.mk.inj hb
        clear hb k66
        go_enter Tryf.func43, Tryf.ntmps43
        go_wp2_with fail
        go_ret2
        exact ⟨rfl, rfl⟩
      have e66 : ((s[1].toNat : Int) == 66) = false := by rw [beq_eq_false_iff_ne]; omega
      by_cases k111 : s[1].toNat = 111
      · have e111 : ((s[1].toNat : Int) == 111) = true := by rw [k111]; rfl
        have hb : (b, n) = (8, 2) := by rw [← HP2.out, k111]; rfl
        obtain ⟨rfl, rfl⟩ := Prod.mk.inj hb
        clear hb k111
        go_enter Tryf.func43, Tryf.ntmps43
        go_wp2_with fail
        go_ret2
        exact ⟨rfl, rfl⟩
      have e111 : ((s[1].toNat : Int) == 111) = false := by rw [beq_eq_false_iff_ne]; omega
      by_cases k79 : s[1].toNat = 79
      · have e79 : ((s[1].toNat : Int) == 79) = true := by rw [k79]; rfl
        have hb : (b, n) = (8, 2) := by rw [← HP2.out, k79]; rfl
        obtain ⟨rfl, rfl⟩ := Prod.mk.inj hb
        clear hb k79
        go_enter Tryf.func43, Tryf.ntmps43
        go_wp2_with fail
        go_ret2
        exact ⟨rfl, rfl⟩
      have e79 : ((s[1].toNat : Int) == 79) = false := by rw [beq_eq_false_iff_ne]; omega
      by_cases k120 : s[1].toNat = 120
      · have e120 : ((s[1].toNat : Int) == 120) = true := by rw [k120]; rfl
        have hb : (b, n) = (16, 2) := by rw [← HP2.out, k120]; rfl
        obtain ⟨rfl, rfl⟩ := Prod.mk.inj hb
        clear hb k120
        go_enter Tryf.func43, Tryf.ntmps43
        go_wp2_with fail
        go_ret2
        exact ⟨rfl, rfl⟩
      have e120 : ((s[1].toNat : Int) == 120) = false := by rw [beq_eq_false_iff_ne]; omega
      by_cases k88 : s[1].toNat = 88
      · have e88 : ((s[1].toNat : Int) == 88) = true := by rw [k88]; rfl
        have hb : (b, n) = (16, 2) := by rw [← HP2.out, k88]; rfl
        obtain ⟨rfl, rfl⟩ := Prod.mk.inj hb
        clear hb k88
        go_enter Tryf.func43, Tryf.ntmps43
        go_wp2_with fail
        go_ret2
        exact ⟨rfl, rfl⟩
      have e88 : ((s[1].toNat : Int) == 88) = false := by rw [beq_eq_false_iff_ne]; omega
      have hb : (b, n) = (8, 1) := by rw [← HP2.out]; simp only [k98, k66, k111, k79, k120, k88, or_self, if_false]
      obtain ⟨rfl, rfl⟩ := Prod.mk.inj hb
      clear hb k98 k66 k111 k79 k120 k88
      go_enter Tryf.func43, Tryf.ntmps43
      go_wp2_with fail
      go_ret2
      exact ⟨rfl, rfl⟩
    · have e48 : ((s[0].toNat : Int) != 48) = true := by rw [bne_iff_ne]; omega
      have e48' : ((s[0].toNat : Int) == 48) = false := by rw [beq_eq_false_iff_ne]; omega
      have hb : (b, n) = (10, 0) := by rw [← HP.out, pfx_ten h48]
      obtain ⟨rfl, rfl⟩ := Prod.mk.inj hb
      clear hb h48
      go_enter Tryf.func43, Tryf.ntmps43
      go_wp2_with fail
      go_ret2
      exact ⟨rfl, rfl⟩

/-- The value of a digit, -1 if it is none. -/
def digI (c b : Nat) : Int := if dgv c b < b then (dgv c b : Int) else -1

set_option maxHeartbeats 1000000 in
theorem digit_any (c b : Nat) (w : World) (hc : c < 256) (hb : 2 ≤ b) (hb2 : b ≤ 62) :
    Calls Tryf.prog 44 #[.int .u8 (c : Nat), .int .i64 (b : Nat)] w fun e w' => e = .returned (.int .i64 (digI c b)) ∧ w = w' := by
  obtain ⟨d, hd⟩ : ∃ d, dgv c b = d := ⟨_, rfl⟩
  obtain ⟨r, hr⟩ : ∃ r, digI c b = r := ⟨_, rfl⟩
  rw [hr]
  unfold digI at hr
  rw [hd] at hr
  have HR := Lib.hid hr
  clear hr
  unfold dgv at hd
  by_cases k1 : 48 ≤ c
  · have f1 : decide ((48 : Int) ≤ (c : Int)) = true := decide_eq_true (by omega)
    by_cases k2 : c ≤ 57
    · have f2 : decide ((c : Int) ≤ 57) = true := decide_eq_true (by omega)
      rw [if_pos ⟨k1, k2⟩] at hd
      have hdi : (c : Int) - 48 = (d : Int) := by omega
      clear hd
      by_cases hdb : b ≤ d
      · have g1 : decide ((b : Int) ≤ (d : Int)) = true := decide_eq_true (by omega)
        have g2 : decide (b ≤ d) = true := decide_eq_true hdb
        obtain rfl : r = -1 := by rw [← HR.out, if_neg (by omega)]
        go_enter Tryf.func44, Tryf.ntmps44
        go_wp2_with fail
        go_ret
        exact ⟨rfl, rfl⟩
      · have g1 : decide ((b : Int) ≤ (d : Int)) = false := decide_eq_false (by omega)
        have g2 : decide (b ≤ d) = false := decide_eq_false hdb
        obtain rfl : r = (d : Int) := by rw [← HR.out, if_pos (by omega)]
        go_enter Tryf.func44, Tryf.ntmps44
        go_wp2_with fail
        go_ret
        exact ⟨rfl, rfl⟩
    have f2 : decide ((c : Int) ≤ 57) = false := decide_eq_false (by omega)
    rw [if_neg (by omega)] at hd
    by_cases k3 : 97 ≤ c
    · have f3 : decide ((97 : Int) ≤ (c : Int)) = true := decide_eq_true (by omega)
      by_cases k4 : c ≤ 122
      · have f4 : decide ((c : Int) ≤ 122) = true := decide_eq_true (by omega)
        rw [if_pos ⟨k3, k4⟩] at hd
        have hdi : (c : Int) - 97 + 10 = (d : Int) := by omega
        clear hd
        by_cases hdb : b ≤ d
        · have g1 : decide ((b : Int) ≤ (d : Int)) = true := decide_eq_true (by omega)
          have g2 : decide (b ≤ d) = true := decide_eq_true hdb
          obtain rfl : r = -1 := by rw [← HR.out, if_neg (by omega)]
          go_enter Tryf.func44, Tryf.ntmps44
          go_wp2_with fail
          go_ret
          exact ⟨rfl, rfl⟩
        · have g1 : decide ((b : Int) ≤ (d : Int)) = false := decide_eq_false (by omega)
          have g2 : decide (b ≤ d) = false := decide_eq_false hdb
          obtain rfl : r = (d : Int) := by rw [← HR.out, if_pos (by omega)]
          go_enter Tryf.func44, Tryf.ntmps44
          go_wp2_with fail
          go_ret
          exact ⟨rfl, rfl⟩
      have f4 : decide ((c : Int) ≤ 122) = false := decide_eq_false (by omega)
      have f5 : decide ((65 : Int) ≤ (c : Int)) = true := decide_eq_true (by omega)
      have f6 : decide ((c : Int) ≤ 90) = false := decide_eq_false (by omega)
      rw [if_neg (by omega), if_neg (by omega)] at hd
      subst hd
      obtain rfl : r = -1 := by rw [← HR.out, if_neg (by omega)]
      have g1 : decide ((b : Int) ≤ -1) = false := decide_eq_false (by omega)
      go_enter Tryf.func44, Tryf.ntmps44
      go_wp2_with fail
      go_ret
      exact ⟨rfl, rfl⟩
    have f3 : decide ((97 : Int) ≤ (c : Int)) = false := decide_eq_false (by omega)
    rw [if_neg (by omega)] at hd
    by_cases k5 : 65 ≤ c
    · have f5 : decide ((65 : Int) ≤ (c : Int)) = true := decide_eq_true (by omega)
      by_cases k6 : c ≤ 90
      · have f6 : decide ((c : Int) ≤ 90) = true := decide_eq_true (by omega)
        rw [if_pos ⟨k5, k6⟩] at hd
        by_cases k7 : b ≤ 36
        · have f7 : decide ((b : Int) ≤ 36) = true := decide_eq_true (by omega)
          rw [if_pos k7] at hd
          have hdi : (c : Int) - 65 + 10 = (d : Int) := by omega
          clear hd
          by_cases hdb : b ≤ d
          · have g1 : decide ((b : Int) ≤ (d : Int)) = true := decide_eq_true (by omega)
            have g2 : decide (b ≤ d) = true := decide_eq_true hdb
            obtain rfl : r = -1 := by rw [← HR.out, if_neg (by omega)]
            go_enter Tryf.func44, Tryf.ntmps44
            go_wp2_with fail
            go_ret
            exact ⟨rfl, rfl⟩
          · have g1 : decide ((b : Int) ≤ (d : Int)) = false := decide_eq_false (by omega)
            have g2 : decide (b ≤ d) = false := decide_eq_false hdb
            obtain rfl : r = (d : Int) := by rw [← HR.out, if_pos (by omega)]
            go_enter Tryf.func44, Tryf.ntmps44
            go_wp2_with fail
            go_ret
            exact ⟨rfl, rfl⟩
        · have f7 : decide ((b : Int) ≤ 36) = false := decide_eq_false (by omega)
          rw [if_neg k7] at hd
          have hdi : (c : Int) - 65 + 36 = (d : Int) := by omega
          clear hd
          by_cases hdb : b ≤ d
          · have g1 : decide ((b : Int) ≤ (d : Int)) = true := decide_eq_true (by omega)
            have g2 : decide (b ≤ d) = true := decide_eq_true hdb
            obtain rfl : r = -1 := by rw [← HR.out, if_neg (by omega)]
            go_enter Tryf.func44, Tryf.ntmps44
            go_wp2_with fail
            go_ret
            exact ⟨rfl, rfl⟩
          · have g1 : decide ((b : Int) ≤ (d : Int)) = false := decide_eq_false (by omega)
            have g2 : decide (b ≤ d) = false := decide_eq_false hdb
            obtain rfl : r = (d : Int) := by rw [← HR.out, if_pos (by omega)]
            go_enter Tryf.func44, Tryf.ntmps44
            go_wp2_with fail
            go_ret
            exact ⟨rfl, rfl⟩
      have f6 : decide ((c : Int) ≤ 90) = false := decide_eq_false (by omega)
      rw [if_neg (by omega)] at hd
      subst hd
      obtain rfl : r = -1 := by rw [← HR.out, if_neg (by omega)]
      have g1 : decide ((b : Int) ≤ -1) = false := decide_eq_false (by omega)
      go_enter Tryf.func44, Tryf.ntmps44
      go_wp2_with fail
      go_ret
      exact ⟨rfl, rfl⟩
    have f5 : decide ((65 : Int) ≤ (c : Int)) = false := decide_eq_false (by omega)
    rw [if_neg (by omega)] at hd
    subst hd
    obtain rfl : r = -1 := by rw [← HR.out, if_neg (by omega)]
    have g1 : decide ((b : Int) ≤ -1) = false := decide_eq_false (by omega)
    go_enter Tryf.func44, Tryf.ntmps44
    go_wp2_with fail
    go_ret
    exact ⟨rfl, rfl⟩
  · have f1 : decide ((48 : Int) ≤ (c : Int)) = false := decide_eq_false (by omega)
    have f3 : decide ((97 : Int) ≤ (c : Int)) = false := decide_eq_false (by omega)
    have f5 : decide ((65 : Int) ≤ (c : Int)) = false := decide_eq_false (by omega)
    rw [if_neg (by omega), if_neg (by omega), if_neg (by omega)] at hd
    subst hd
    obtain rfl : r = -1 := by rw [← HR.out, if_neg (by omega)]
    have g1 : decide ((b : Int) ≤ -1) = false := decide_eq_false (by omega)
    go_enter Tryf.func44, Tryf.ntmps44
    go_wp2_with fail
    go_ret
    exact ⟨rfl, rfl⟩

/-- What times has gathered behind some rounds. -/
def TimL (w : World) (ws : List Nat) (n : Nat) (v5 v6 : Value) (wr : World) : Prop :=
  ∃ (k : Nat) (rs : List Nat), ((k = 0 ∧ v6 = .int .i64 (-1)) ∨ ∃ j : Nat, k = j + 1 ∧ j ≤ 5 ∧ v6 = .int .i64 (j : Nat)) ∧ Own .u64 wr 0 36 v5 rs ∧ norm rs = rs ∧ val rs = val ws * (n / 2 ^ k) ∧ Ext w wr

set_option maxHeartbeats 1000000 in
theorem times_any (v : Value) (ws : List Nat) (n : Nat) (w : World) (h : Rd .u64 w v ws) (hl : ws.length + 3 ≤ 17592186044416) (hn : n < 64) :
    Calls Tryf.prog 46 #[v, .int .u64 (n : Nat)] w (SpecR (val ws * n) (ws.length + 1) w) := by
  have hvl := val_lt ws h.1
  have HB : Hid (∀ k, val ws * (n / 2 ^ k) < 18446744073709551616 ^ (ws.length + 1)) := Lib.hid (fun k => by
    have h1 : n / 2 ^ k ≤ 64 := Nat.le_trans (Nat.div_le_self _ _) (by omega)
    have h2 : val ws * (n / 2 ^ k) ≤ val ws * 64 := Nat.mul_le_mul_left _ h1
    rw [Nat.pow_succ]
    omega)
  obtain ⟨a, cap, rfl⟩ := h.form
  have H := Lib.hid h
  clear h hvl
  go_enter Tryf.func46, Tryf.ntmps46
  go_wp2_with fail
  go_loopw [5, 6] (fun v5 v6 wr => TimL w ws n v5 v6 wr) (fun _ i _ => (intOf i + 1).toNat)
  case atStart => exact ⟨6, [], .inr ⟨5, rfl, by omega, rfl⟩, ⟨by simp, row_start .u64 _ _ _ _ rfl (Nat.zero_le _)⟩, rfl, by rw [show n / 2 ^ 6 = 0 by omega]; rfl, Ext.alloc _ _⟩
  case round =>
    obtain ⟨k, rs, hk, hown, hnr, hvr, hext⟩ := hrel
    have hlr : rs.length ≤ ws.length + 1 := len_of_val hnr (by rw [hvr]; exact HB.out k)
    have HO := Lib.hid hown
    have HN := Lib.hid hnr
    have HV := Lib.hid hvr
    have HE := Lib.hid hext
    obtain ⟨a5, c5, rfl⟩ := hown.form
    clear hown hnr hvr hext
    rcases hk with ⟨rfl, rfl⟩ | ⟨j, rfl, hj5, rfl⟩
    · go_wp2_with fail
      go_ret
      exact ⟨HE.out, _, rs, rfl, HO.out, HN.out, by rw [HV.out]; simp, hlr⟩
    · go_wp2_with fail
      refine (double_any _ rs 0 _ HO.out.read (by omega) (by omega)).mono ?_
      rintro e w2 ⟨he, v2, rfl, ho⟩
      have hval : val (norm (shlL 1 0 rs ++ [shlC 1 0 rs])) = val ws * (n / 2 ^ (j + 1) * 2) := by
        rw [val_norm, val_snoc, shl_len, shl_val 1 0 (by omega), HV.out, Nat.add_zero, Nat.mul_assoc]
      have hn2 := norm_norm (shlL 1 0 rs ++ [shlC 1 0 rs])
      generalize norm (shlL 1 0 rs ++ [shlC 1 0 rs]) = rs2 at *
      have HE2 := Lib.hid (HE.out.trans he)
      have HO2 := Lib.hid (ho.mono (Nat.zero_le _))
      have HN2 := Lib.hid hn2
      have HV2 := Lib.hid hval
      obtain ⟨a2, c2, rfl⟩ := ho.form
      clear ho he hn2 hval
      have hlr2 : rs2.length ≤ ws.length + 2 := len_of_val HN2.out (by
        have h0 := HB.out (j + 1)
        have h2 : 18446744073709551616 ^ (ws.length + 1) * 2 < 18446744073709551616 ^ (ws.length + 1) * 18446744073709551616 := Nat.mul_lt_mul_of_pos_left (by decide) (pow_pos' _)
        rw [HV2.out, ← Nat.mul_assoc, show ws.length + 2 = (ws.length + 1) + 1 from rfl, Nat.pow_succ 18446744073709551616 (ws.length + 1)]
        generalize 18446744073709551616 ^ (ws.length + 1) = Y at *
        generalize val ws * (n / 2 ^ (j + 1)) = X at *
        omega)
      have hx : bits BinOp.and IntKind.u64 ((n : Int) / 2 ^ j) 1 = ((n / 2 ^ j % 2 : Nat) : Int) := by
        have e2 : ((n : Int) / 2 ^ j) = ((n / 2 ^ j : Nat) : Int) := by simp
        rw [e2]
        have h1 : n / 2 ^ j ≤ n := Nat.div_le_self _ _
        have := bits_and_u64_nat (n / 2 ^ j) 1 (by omega) (by decide)
        rw [Nat.and_one_is_mod] at this
        exact this
      have hsp : n / 2 ^ j = n / 2 ^ (j + 1) * 2 + n / 2 ^ j % 2 := by
        have : n / 2 ^ (j + 1) = n / 2 ^ j / 2 := by rw [Nat.pow_succ, Nat.div_div_eq_div_mul]
        omega
      have hnext : ∀ (v : Value) (rs3 : List Nat) (w3 : World), Own .u64 w3 0 36 v rs3 → norm rs3 = rs3 → val rs3 = val ws * (n / 2 ^ j) → Ext w w3 → TimL w ws n v (.int .i64 ((j : Int) - 1)) w3 := by
        intro v rs3 w3 h1 h2 h3 h4
        refine ⟨j, rs3, ?_, h1, h2, h3, h4⟩
        rcases j with _ | j
        · exact .inl ⟨rfl, rfl⟩
        · exact .inr ⟨j, rfl, by omega, by congr 1; omega⟩
      have HNX := Lib.hid hnext
      clear hnext
      rcases Nat.mod_two_eq_zero_or_one (n / 2 ^ j) with h0 | h1
      · have hb : (bits BinOp.and IntKind.u64 ((n : Int) / 2 ^ j) 1 == 1) = false := by rw [hx, h0]; rfl
        have HR := Lib.hid (HNX.out _ rs2 _ HO2.out HN2.out (by rw [HV2.out, hsp, h0]; rfl) HE2.out)
        clear hx hsp h0
        go_wp2_with fail
        go_roundw
        case rel => exact HR.out
        case measure => simp [intOf]
      · have hb : (bits BinOp.and IntKind.u64 ((n : Int) / 2 ^ j) 1 == 1) = true := by rw [hx, h1]; rfl
        have HS : Hid (val ws * (n / 2 ^ (j + 1) * 2) + val ws = val ws * (n / 2 ^ j)) := Lib.hid (by rw [hsp, h1, Nat.mul_add, Nat.mul_one])
        clear hx hsp h1
        go_wp2_with fail
        refine (specSum_any _ _ rs2 ws _ (ws.length + 2) HO2.out.read (H.out.ext HE2.out) (by omega) hlr2 (by omega)).mono ?_
        rintro e w3 ⟨he3, v3, rs3, rfl, ho3, hn3, hv3, hl3⟩
        have HR := Lib.hid (HNX.out _ rs3 _ ho3 hn3 (by rw [hv3, HV2.out, HS.out]) (HE2.out.trans he3))
        obtain ⟨a3, c3, rfl⟩ := ho3.form
        clear he3 ho3 hn3 hv3 hl3
        go_wp2_with fail
        go_roundw
        case rel => exact HR.out
        case measure => simp [intOf]

end Go.Proofs.YtocadbghhoibnaaFmt

/- The digits gathered in words: plain laws; whose a row of words is. -/
namespace Go.Proofs.YtocadbghhoibnaaFmt
open Go.RowKit

/-- i digits in di, the others in zs: the value v in all. -/
def Gat (b n : Nat) (pk : Bool) (zs : List Nat) (i di v : Nat) : Prop :=
  i < n ∧ di < b ^ i ∧ (pk = true → v = val zs.reverse * b ^ i + di) ∧ (pk = false → v = val zs * b ^ i + di ∧ norm zs = zs)

theorem Gat.start {b n : Nat} (pk : Bool) (hn : 0 < n) : Gat b n pk [] 0 0 0 :=
  ⟨hn, by simp, fun _ => by simp [val], fun _ => ⟨by simp [val], rfl⟩⟩

theorem dig_lt {b i di d : Nat} (h : di < b ^ i) (hd : d < b) : di * b + d < b ^ (i + 1) := by
  have h1 : (di + 1) * b ≤ b ^ i * b := Nat.mul_le_mul_right _ h
  rw [Nat.pow_succ]
  rw [Nat.add_mul] at h1
  omega

theorem Gat.small {b n i di v d : Nat} {pk : Bool} {zs : List Nat} (h : Gat b n pk zs i di v) (hb : 1 ≤ b) (hn : b ^ n ≤ 18446744073709551616) (hd : d < b) : di * b + d < 18446744073709551616 := by
  have h1 := dig_lt h.2.1 hd
  have h2 : b ^ (i + 1) ≤ b ^ n := Nat.pow_le_pow_right hb h.1
  omega

theorem Gat.next {b n i di v d : Nat} {pk : Bool} {zs : List Nat} (h : Gat b n pk zs i di v) (hd : d < b) (hi : i + 1 < n) : Gat b n pk zs (i + 1) (di * b + d) (v * b + d) := by
  refine ⟨hi, dig_lt h.2.1 hd, fun hp => ?_, fun hp => ⟨?_, (h.2.2.2 hp).2⟩⟩
  · rw [h.2.2.1 hp, Nat.pow_succ, Nat.add_mul, Nat.mul_assoc, Nat.add_assoc]
  · rw [(h.2.2.2 hp).1, Nat.pow_succ, Nat.add_mul, Nat.mul_assoc, Nat.add_assoc]

theorem val_cons (x : Nat) (xs : List Nat) : val (x :: xs) = x + 18446744073709551616 * val xs := rfl

theorem Gat.fullP {b n i di v d : Nat} {zs : List Nat} (h : Gat b n true zs i di v) (hd : d < b) (hi : i + 1 = n) (hn : b ^ n = 18446744073709551616) : Gat b n true (zs ++ [di * b + d]) 0 0 (v * b + d) := by
  refine ⟨by omega, by simp, fun _ => ?_, fun hp => by cases hp⟩
  have e : b ^ i * b = 18446744073709551616 := by rw [← hn, ← hi, Nat.pow_succ]
  rw [h.2.2.1 rfl, List.reverse_append, List.reverse_singleton, List.singleton_append, val_cons, Nat.pow_zero, Nat.mul_one, Nat.add_zero, Nat.add_mul, Nat.mul_assoc, e]
  omega

theorem Gat.fullU {b n i di v d : Nat} {zs zs' : List Nat} (h : Gat b n false zs i di v) (hd : d < b) (hi : i + 1 = n) (hv : val zs' = val zs * b ^ n + (di * b + d)) (hz : norm zs' = zs') : Gat b n false zs' 0 0 (v * b + d) := by
  refine ⟨by omega, by simp, fun hp => (by simp at hp), fun _ => ⟨?_, hz⟩⟩
  rw [(h.2.2.2 rfl).1, hv, ← hi, Nat.pow_succ, Nat.pow_zero, Nat.mul_one, Nat.add_zero, Nat.add_mul, Nat.mul_assoc, Nat.add_assoc]

/-- The row of words is of the call's own. -/
theorem own_up {w : World} {B : Nat} {E : TypeId} {v : Value} {ws : List Nat} (h : Own .u64 w 0 E v ws) (hb : ∀ k, v.ownBlock = some k → B ≤ k) : Own .u64 w B E v ws := by
  refine ⟨h.1, h.2.1, ?_⟩
  rcases h.2.2 with hn | ⟨g, cap, cur, rfl, hb', rest⟩
  · exact .inl hn
  · exact .inr ⟨g, cap, cur, rfl, hb g (by rfl), rest⟩

theorem own_down {w : World} {B : Nat} {E : TypeId} {v : Value} {ws : List Nat} (h : Own .u64 w B E v ws) : Own .u64 w 0 E v ws := ⟨h.1, ownsRow_base' h.2⟩

theorem own_ge {w : World} {B : Nat} {E : TypeId} {v : Value} {ws : List Nat} (h : Own .u64 w B E v ws) : ∀ k, v.ownBlock = some k → B ≤ k := by
  intro k hk
  rcases h.2.2 with ⟨rfl, _⟩ | ⟨g, cap, cur, rfl, hb', rest⟩
  · cases hk
  · have : g = k := by simpa [Value.ownBlock] using hk
    omega

theorem own_lt {w : World} {B : Nat} {E : TypeId} {v : Value} {ws : List Nat} (h : Own .u64 w B E v ws) : ∀ k, v.ownBlock = some k → k < w.heap.size := by
  intro k hk
  rcases h.2.2 with ⟨rfl, _⟩ | ⟨g, cap, cur, rfl, hb', hg, rest⟩
  · cases hk
  · have : g = k := by simpa [Value.ownBlock] using hk
    subst this
    exact (Array.getElem?_eq_some_iff.1 hg).1

/-- What a call that gives a row back leaves to its caller. -/
theorem natR_own {w0 w w' : World} {S : Nat → Prop} {v0 : Value} {ws ys : List Nat} {e : Ending} (h0 : Upd S w0 w) (ho : Own .u64 w w0.heap.size 93 v0 ys) (h : NatR v0 ws w e w') : ∃ v', e = .returned v' ∧ Own .u64 w' w0.heap.size 93 v' ws ∧ Upd S w0 w' ∧ Upd (fun k => v0.ownBlock = some k) w w' := by
  obtain ⟨v', rfl, h1, h2, h3⟩ := h
  refine ⟨v', rfl, own_up h1 ?_, (h0.trans h2).mono ?_, h2⟩
  · rcases h3 with h3 | h3
    · intro k hk; rw [h3] at hk; exact own_ge ho k hk
    · intro k hk; exact Nat.le_trans h0.size (h3 k hk)
  · intro k hk hor
    rcases hor with q | q
    · exact q
    · have := own_ge ho k q; omega

theorem grown_upd {w w' : World} {o : Option Nat} (h : w.grownBy w' o) : Upd (fun k => o = some k) w w' := by
  obtain ⟨h1, h2, h3, h4, h5⟩ := h
  exact ⟨by assumption, by assumption, by assumption, h4, fun k hk hn => h5 k hk (fun q => hn q.symm)⟩

theorem Own.upd2 {w w' : World} {S : Nat → Prop} {B : Nat} {E : TypeId} {v : Value} {ws : List Nat} (h : Own .u64 w B E v ws) (hu : Upd S w w') (hs : ∀ k, v.ownBlock = some k → ¬ S k) : Own .u64 w' B E v ws := by
  refine ⟨h.1, h.2.1, ?_⟩
  rcases h.2.2 with hn | ⟨g, cap, cur, rfl, hb', hg, rest⟩
  · exact .inl hn
  · exact .inr ⟨g, cap, cur, rfl, hb', hu.heap hg (hs g (by rfl)), rest⟩

theorem sc_under {u : Bool} {b : Nat} {st : Sc} {l : List Nat} (hu : u = true) : scRun u b st (95 :: l) = scRun u b ⟨95, st.iv || decide (st.pv ≠ 48), st.ct, st.v⟩ l := by
  rw [scRun, scStep, if_pos ⟨rfl, hu⟩]

theorem sc_stop {u : Bool} {b c : Nat} {st : Sc} {l : List Nat} (hu : ¬ (c = 95 ∧ u = true)) (hd : b ≤ dgv c b) : scRun u b st (c :: l) = (st, c :: l) := by
  rw [scRun, scStep, if_neg hu, if_pos hd]

theorem sc_dig {u : Bool} {b c : Nat} {st : Sc} {l : List Nat} (hu : ¬ (c = 95 ∧ u = true)) (hd : dgv c b < b) : scRun u b st (c :: l) = scRun u b ⟨48, st.iv, st.ct + 1, st.v * b + dgv c b⟩ l := by
  rw [scRun, scStep, if_neg hu, if_neg (by omega)]

/-- How many digits go into a word. -/
def Pk (b n bn : Nat) (pk : Bool) : Prop := 1 ≤ n ∧ n ≤ 64 ∧ b ^ n ≤ 18446744073709551616 ∧ ((pk = true ∧ bn = 0 ∧ b ^ n = 18446744073709551616 ∧ (b = 2 ∧ n = 64 ∨ b = 4 ∧ n = 32 ∨ b = 16 ∧ n = 16)) ∨ (pk = false ∧ 0 < bn ∧ bn = b ^ n ∧ bn < 18446744073709551616 ∧ b ≠ 2 ∧ b ≠ 4 ∧ b ≠ 16))

/-- The text is short enough for L words. -/
def FitS (s : ByteArray) (base i0 L : Nat) : Prop := ∀ b, (b = base ∨ b = 2 ∨ b = 8 ∨ b = 10 ∨ b = 16) → (base ≠ 0 → b = base) → 2 ≤ b → (b = 2 → s.size ≤ 64 * L) ∧ (b = 4 → s.size ≤ 32 * L) ∧ (b = 16 → s.size ≤ 16 * L) ∧ (b ≠ 2 → b ≠ 4 → b ≠ 16 → ∀ u st q, i0 ≤ q → st.v = 0 → (scRun u b st (bts s q)).1.v < 18446744073709551616 ^ L)

/-- What holds of the digits read so far. -/
structure ScI (p : Nat) (s : ByteArray) (u : Bool) (b n : Nat) (pk : Bool) (w : World) (R : Sc × List Nat) (q j : Nat) (st : Sc) (zs : List Nat) (i di : Nat) (v0 : Value) (wr : World) : Prop where
  run : scRun u b st (bts s q) = R
  qs : q ≤ s.size
  ct : st.ct ≤ q
  pv : st.pv = 46 ∨ st.pv = 48 ∨ st.pv = 95
  gat : Gat b n pk zs i di st.v
  len : zs.length * n + i ≤ st.ct
  own : Own .u64 wr w.heap.size 93 v0 zs
  rdr : RdrAt p s j wr
  upd : Upd (· = p) w wr

def ScLoop (p : Nat) (s : ByteArray) (a0 : Addr) (u : Bool) (b n : Nat) (pk : Bool) (w : World) (R : Sc × List Nat) (k : Nat) (v0 v3 v10 v11 v13 v14 v15 v20 v21 v22 : Value) (wr : World) : Prop :=
  ∃ (q ch j : Nat) (ev : Value) (st : Sc) (zs : List Nat) (i di : Nat), v3 = .bool false ∧ v10 = .int .i64 (st.ct : Nat) ∧ v11 = ev ∧ v13 = .int .i32 (st.pv : Nat) ∧ v14 = .bool st.iv ∧ v15 = .int .u8 (ch : Nat) ∧ v20 = .int .u64 (di : Nat) ∧ v21 = .int .i64 (i : Nat) ∧ v22 = .int .i64 (-1) ∧
    Rd1 s a0 q ch ev j ∧ ScI p s u b n pk w R q j st zs i di v0 wr ∧ s.size - q ≤ k

def ScMid (p : Nat) (s : ByteArray) (u : Bool) (b n : Nat) (pk : Bool) (w : World) (R : Sc × List Nat) (q : Nat) (v0 v3 v10 v13 v14 v20 v21 v22 : Value) (wr : World) : Prop :=
  ∃ (st : Sc) (zs : List Nat) (i di : Nat), v3 = .bool false ∧ v10 = .int .i64 (st.ct : Nat) ∧ v13 = .int .i32 (st.pv : Nat) ∧ v14 = .bool st.iv ∧ v20 = .int .u64 (di : Nat) ∧ v21 = .int .i64 (i : Nat) ∧ v22 = .int .i64 (-1) ∧
    ScI p s u b n pk w R (q + 1) (q + 1) st zs i di v0 wr

def ScOut (p : Nat) (s : ByteArray) (a0 : Addr) (u : Bool) (b n : Nat) (pk : Bool) (w : World) (R : Sc × List Nat) (v0 v3 v10 v11 v13 v14 v20 v21 v22 : Value) (wr : World) : Prop :=
  ∃ (j : Nat) (ev : Value) (st : Sc) (zs : List Nat) (i di : Nat), v3 = .bool false ∧ v10 = .int .i64 (st.ct : Nat) ∧ v11 = ev ∧ v13 = .int .i32 (st.pv : Nat) ∧ v14 = .bool st.iv ∧ v20 = .int .u64 (di : Nat) ∧ v21 = .int .i64 (i : Nat) ∧ v22 = .int .i64 (-1) ∧
    ScI p s u b n pk w R j j st zs i di v0 wr ∧ R = (st, bts s j) ∧ (ev = .nilIface ∧ j < s.size ∨ ev = errAt a0 ∧ j = s.size)

theorem fit_pk {s : ByteArray} {a0 : Addr} {base i0 L b q ch j pre n bn : Nat} {ev : Value} {st : Sc} {pk : Bool} (hf : FitS s base i0 L) (hp : Pre s a0 base i0 b q ch j pre ev st) (hk : Pk b n bn pk) (u : Bool) : (pk = true → s.size ≤ n * L) ∧ (pk = false → (scRun u b st (bts s q)).1.v < 18446744073709551616 ^ L) := by
  obtain ⟨f1, f2, f3, f4⟩ := hf b hp.bb hp.b0 hp.b2
  obtain ⟨_, _, _, ⟨rfl, _, _, h⟩ | ⟨rfl, _, _, _, h1, h2, h3⟩⟩ := hk
  · refine ⟨fun _ => ?_, fun q => by cases q⟩
    rcases h with ⟨rfl, rfl⟩ | ⟨rfl, rfl⟩ | ⟨rfl, rfl⟩
    · exact f1 rfl
    · exact f2 rfl
    · exact f3 rfl
  · exact ⟨fun hq => (by simp at hq), fun _ => f4 h1 h2 h3 u st q hp.iq hp.v⟩

theorem ScI.lenU {p : Nat} {s : ByteArray} {u : Bool} {b n L : Nat} {w : World} {R : Sc × List Nat} {q j : Nat} {st : Sc} {zs : List Nat} {i di : Nat} {v0 : Value} {wr : World} (h : ScI p s u b n false w R q j st zs i di v0 wr) (hb : 1 ≤ b) (hR : R.1.v < 18446744073709551616 ^ L) : zs.length ≤ L := by
  obtain ⟨h1, h2⟩ := h.gat.2.2.2 rfl
  have h3 := scRun_ge u b hb (bts s q) st
  rw [h.run] at h3
  have h4 : val zs * 1 ≤ val zs * b ^ i := Nat.mul_le_mul_left _ (Nat.pow_pos hb)
  exact len_of_val h2 (by omega)

theorem ScI.lenP {p : Nat} {s : ByteArray} {u : Bool} {b n L : Nat} {pk : Bool} {w : World} {R : Sc × List Nat} {q j : Nat} {st : Sc} {zs : List Nat} {i di : Nat} {v0 : Value} {wr : World} (h : ScI p s u b n pk w R q j st zs i di v0 wr) (hn : 1 ≤ n) (hs : s.size ≤ n * L) : zs.length ≤ L ∧ (0 < i ∨ q < s.size → zs.length + 1 ≤ L) := by
  have h1 := h.len
  have h2 := h.ct
  have h3 := h.qs
  have h4 : zs.length * n = n * zs.length := Nat.mul_comm _ _
  constructor
  · exact Nat.le_of_mul_le_mul_left (show n * zs.length ≤ n * L by omega) (by omega)
  · intro hi
    exact Nat.lt_of_mul_lt_mul_left (show n * zs.length < n * L by omega)

theorem scRun_pc (u : Bool) (b : Nat) : ∀ (l : List Nat) (st : Sc), (st.pv = 46 → st.ct = 0) → ((scRun u b st l).1.pv = 46 → (scRun u b st l).1.ct = 0)
  | [], st, h => h
  | c :: cs, st, h => by
    unfold scRun
    cases hs : scStep u b st c with
    | none => exact h
    | some st' =>
      refine scRun_pc u b cs st' ?_
      unfold scStep at hs
      split at hs
      · cases hs; simp
      · split at hs
        · cases hs
        · cases hs; simp

theorem natS_fin {s : ByteArray} {a0 : Addr} {base i0 b q ch j pre jf : Nat} {ev : Value} {st sf : Sc} {u : Bool} {R : Sc × List Nat} (hp : Pre s a0 base i0 b q ch j pre ev st) (hu : decide (base = 0) = u) (hR : scRun u b st (bts s q) = R) (hf : R = (sf, bts s jf)) (hj : jf ≤ s.size) (n : Nat) : natS (bts s i0) base = some n ↔ (jf = s.size ∧ sf.iv = false ∧ sf.pv = 48 ∧ 0 < sf.ct) ∧ sf.v = n := by
  rw [hp.law n, hu, hR, hf]
  unfold scOk
  have : bts s jf = [] ↔ jf = s.size := by
    constructor
    · intro h
      have := bts_len s jf
      rw [h] at this
      simp at this
      omega
    · intro h; exact bts_nil (by omega)
  simp only [this]

theorem natS_good {s : ByteArray} {a0 : Addr} {base i0 b q ch j pre jf : Nat} {ev : Value} {st sf : Sc} {u : Bool} {R : Sc × List Nat} (hp : Pre s a0 base i0 b q ch j pre ev st) (hu : decide (base = 0) = u) (hR : scRun u b st (bts s q) = R) (hf : R = (sf, bts s jf)) (hj : jf ≤ s.size) (hpv : sf.pv = 46 ∨ sf.pv = 48 ∨ sf.pv = 95) (hb : (sf.iv || decide (sf.pv = 95)) = false) (hc : 0 < sf.ct) (n : Nat) : natS (bts s i0) base = some n ↔ (jf = s.size ∧ sf.v = n) := by
  rw [natS_fin hp hu hR hf hj n]
  simp only [Bool.or_eq_false_iff, decide_eq_false_iff_not] at hb
  have h1 := scRun_pc u b (bts s q) st hp.pc
  rw [hR, hf] at h1
  simp only at h1
  have h2 : sf.pv = 48 := by
    rcases hpv with h | h | h
    · have := h1 h; omega
    · exact h
    · exact absurd h hb.2
  simp [hb.1, h2, hc]

theorem natS_bad {s : ByteArray} {a0 : Addr} {base i0 b q ch j pre jf : Nat} {ev : Value} {st sf : Sc} {u : Bool} {R : Sc × List Nat} (hp : Pre s a0 base i0 b q ch j pre ev st) (hu : decide (base = 0) = u) (hR : scRun u b st (bts s q) = R) (hf : R = (sf, bts s jf)) (hj : jf ≤ s.size) (hb : (sf.iv || decide (sf.pv = 95)) = true ∨ sf.ct = 0) : natS (bts s i0) base = none := by
  cases h : natS (bts s i0) base with
  | none => rfl
  | some n =>
    have h1 := ((natS_fin hp hu hR hf hj n).1 h).1
    obtain ⟨_, h2, h3, h4⟩ := h1
    rcases hb with hb | hb
    · rw [h2, h3] at hb; simp at hb
    · omega

/-- Behind a 0 something must have been read. -/
theorem pre_48 {s : ByteArray} {a0 : Addr} {base i0 b q ch j pre jf : Nat} {ev : Value} {st sf : Sc} {u : Bool} {R : Sc × List Nat} (hp : Pre s a0 base i0 b q ch j pre ev st) (hR : scRun u b st (bts s q) = R) (hf : R = (sf, bts s jf)) (h48 : pre = 48) (hc : sf.ct = 0) (hj : jf = s.size) : (sf.iv || decide (sf.pv = 95)) = true := by
  have h1 := scRun_none u b (bts s q) st (by intro h; have := bts_len s q; rw [h] at this; have h2 := hp.p48 h48; simp at this; omega)
  rw [hR, hf, bts_nil (by omega : s.size ≤ jf)] at h1
  have := h1 rfl hc
  simp only at this
  simp [this]

/-- The digits in a last word that is not full. -/
theorem gat_last {b n i di v : Nat} {zs : List Nat} (h : Gat b n true zs i di v) (hb : 1 ≤ b) (hn : b ^ n = 18446744073709551616) : di * b ^ (n - i) < 18446744073709551616 ∧ val (zs ++ [di * b ^ (n - i)]).reverse = v * b ^ (n - i) := by
  have e : b ^ i * b ^ (n - i) = 18446744073709551616 := by rw [← Nat.pow_add, ← hn]; congr 1; have := h.1; omega
  have hp : 0 < b ^ (n - i) := Nat.pow_pos hb
  constructor
  · have := Nat.mul_lt_mul_of_pos_right h.2.1 hp
    omega
  · rw [h.2.2.1 rfl, List.reverse_append, List.reverse_singleton, List.singleton_append, val_cons, Nat.add_mul, Nat.mul_assoc, e]
    omega

/-- What the scan tells at its end of an error. -/
def ScErr (s : ByteArray) (base i0 : Nat) (a1 a2 : Addr) (sf : Sc) (bad : Bool) (ev : Value) : Prop :=
  (ev = .nilIface ∧ bad = false ∧ 0 < sf.ct) ∨ ((ev = errAt a1 ∨ ev = errAt a2) ∧ natS (bts s i0) base = none)

def ScE1 (a1 : Addr) (bad : Bool) (v : Value) : Prop := (v = .nilIface ∧ bad = false) ∨ (v = errAt a1 ∧ bad = true)

def ScanR (p : Nat) (s : ByteArray) (base i0 L : Nat) (a1 a2 : Addr) (w : World) (e : Ending) (w' : World) : Prop :=
  ∃ (vz : Value) (bb ct : Int) (ev : Value) (j : Nat) (zs : List Nat), e = .returned (.tuple #[vz, .int .i64 bb, .int .i64 ct, ev]) ∧ RdrAt p s j w' ∧ j ≤ s.size ∧ Upd (· = p) w w' ∧ Own .u64 w' w.heap.size 93 vz zs ∧
    ((ev = .nilIface ∧ norm zs = zs ∧ zs.length ≤ L ∧ ∀ n, natS (bts s i0) base = some n ↔ (j = s.size ∧ val zs = n)) ∨ ((ev = errAt a1 ∨ ev = errAt a2) ∧ natS (bts s i0) base = none))

theorem scan_fin {p : Nat} {s : ByteArray} {a0 a1 a2 : Addr} {base i0 L b q ch j pre jf : Nat} {ev ev2 : Value} {st sf : Sc} {u bad : Bool} {R : Sc × List Nat} {w wf : World} {vz : Value} {zs : List Nat} (hp : Pre s a0 base i0 b q ch j pre ev st) (hu : decide (base = 0) = u) (hR : scRun u b st (bts s q) = R) (hf : R = (sf, bts s jf)) (hj : jf ≤ s.size) (hpv : sf.pv = 46 ∨ sf.pv = 48 ∨ sf.pv = 95) (hbad : (sf.iv || decide (sf.pv = 95)) = bad) (he : ScErr s base i0 a1 a2 sf bad ev2)
    (ho : Own .u64 wf w.heap.size 93 vz zs) (hn : norm zs = zs) (hv : val zs = sf.v) (hl : zs.length ≤ L) (hw : Upd (· = p) w wf) (hr : RdrAt p s jf wf) (bb ct : Int) :
    ScanR p s base i0 L a1 a2 w (.returned (.tuple #[vz, .int .i64 bb, .int .i64 ct, ev2])) wf := by
  refine ⟨vz, bb, ct, ev2, jf, zs, rfl, hr, hj, hw, ho, ?_⟩
  rcases he with ⟨h1, h2, h3⟩ | h1
  · refine .inl ⟨h1, hn, hl, fun n => ?_⟩
    rw [natS_good hp hu hR hf hj hpv (by rw [hbad, h2]) h3 n, hv]
  · exact .inr h1

/-- The octal 0 alone: no digit behind it. -/
theorem scan_oct {p : Nat} {s : ByteArray} {a0 a1 a2 : Addr} {base i0 L b q ch j pre jf : Nat} {ev ev2 : Value} {st sf : Sc} {u bad : Bool} {R : Sc × List Nat} {w wf : World} {vz : Value} (hp : Pre s a0 base i0 b q ch j pre ev st) (hu : decide (base = 0) = u) (hR : scRun u b st (bts s q) = R) (hf : R = (sf, bts s jf)) (hj : jf ≤ s.size) (hbad : (sf.iv || decide (sf.pv = 95)) = bad) (he : ScE1 a1 bad ev2) (hc : sf.ct = 0) (h48 : pre = 48)
    (ho : Own .u64 wf w.heap.size 93 vz []) (hw : Upd (· = p) w wf) (hr : RdrAt p s jf wf) (bb ct : Int) :
    ScanR p s base i0 L a1 a2 w (.returned (.tuple #[vz, .int .i64 bb, .int .i64 ct, ev2])) wf := by
  have hno := natS_bad hp hu hR hf hj (.inr hc)
  refine ⟨vz, bb, ct, ev2, jf, [], rfl, hr, hj, hw, ho, ?_⟩
  rcases he with ⟨h1, h2⟩ | ⟨h1, h2⟩
  · refine .inl ⟨h1, rfl, by simp, fun n => ?_⟩
    rw [hno]
    constructor
    · intro h; cases h
    · rintro ⟨h3, _⟩
      have := pre_48 hp hR hf h48 hc h3
      rw [hbad, h2] at this
      cases this
  · exact .inr ⟨.inl h1, hno⟩

theorem upd_own {p : Nat} {w wr w' : World} {v : Value} {zs : List Nat} (h : Upd (· = p) w wr) (ho : Own .u64 wr w.heap.size 93 v zs) (hu : Upd (fun k => v.ownBlock = some k) wr w') : Upd (· = p) w w' :=
  (h.trans hu).mono (fun k hk hor => by
    rcases hor with q | q
    · exact q
    · have := own_ge ho _ q; omega)

theorem pk_shift {b n i m : Nat} (hnn : b = 2 ∧ n = 64 ∨ b = 4 ∧ n = 32 ∨ b = 16 ∧ n = 16) (hi : 0 < i) (hin : i < n) (hm : n - i = m) : ∃ t k : Nat, 64 / n = k ∧ 1 ≤ k ∧ k ≤ 4 ∧ m * k = t ∧ 0 < t ∧ t < 64 ∧ b ^ m = 2 ^ t := by
  rcases hnn with ⟨rfl, rfl⟩ | ⟨rfl, rfl⟩ | ⟨rfl, rfl⟩
  · exact ⟨m, 1, rfl, by omega, by omega, by omega, by omega, by omega, rfl⟩
  · refine ⟨m * 2, 2, rfl, by omega, by omega, rfl, by omega, by omega, ?_⟩
    rw [show (4 : Nat) = 2 ^ 2 from rfl, ← Nat.pow_mul, Nat.mul_comm]
  · refine ⟨m * 4, 4, rfl, by omega, by omega, rfl, by omega, by omega, ?_⟩
    rw [show (16 : Nat) = 2 ^ 4 from rfl, ← Nat.pow_mul, Nat.mul_comm]

end Go.Proofs.YtocadbghhoibnaaFmt
