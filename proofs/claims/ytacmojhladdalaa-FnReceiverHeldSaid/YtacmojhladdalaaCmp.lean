/- nat.cmp, (*Int).CmpAbs: contracts. -/
import Derived.Test.YtacmojhladdalaaBits
import Derived.BigQuiet
import Derived.Deep.QuietTactic
set_option linter.unusedSimpArgs false
set_option linter.unusedVariables false
namespace Go.Proofs.Ytacmojhladdalaa
open Go.RowKit

theorem val_lt_len {a b : List Nat} (ha : ∀ x ∈ a, x < 18446744073709551616) (hb : norm b = b) (h : a.length < b.length) : val a < val b := by
  have hne : b ≠ [] := by intro e; subst e; simp at h
  have h1 := norm_last hb hne
  have h2 := val_lt a ha
  have : 18446744073709551616 ^ a.length ≤ 18446744073709551616 ^ (b.length - 1) := Nat.pow_le_pow_right (by decide) (by omega)
  omega

theorem Ext.drewN (w : World) (n : Nat) : Ext w (w.drewN n) := by
  induction n with
  | zero => exact Ext.refl w
  | succ n ih => exact ih.trans (Ext.drew _)

theorem cmp_len (aa ab : Option Addr) (a b : List Nat) (ca cb : Nat) (w : World) (hna : norm a = a) (hnb : norm b = b) (ha : ∀ x ∈ a, x < 18446744073709551616) (hb : ∀ x ∈ b, x < 18446744073709551616) (hla : a.length ≤ 17592186044416) (hlb : b.length ≤ 17592186044416) (hd : a.length ≠ b.length ∨ a.length = 0) :
    Calls Try.prog 65 #[.slice aa a.length ca, .slice ab b.length cb] w (ValR (.int .i64 (cmpW a b)) w) := by
  rcases Nat.lt_trichotomy a.length b.length with h1 | h1 | h1
  · rw [cmpW_lt (val_lt_len ha hnb h1)]
    have hq : ((a.length : Int) != (b.length : Int)) = true := by rw [bne_iff_ne]; omega
    clear hd hna hnb ha hb
    go_enter Try.func65, Try.ntmps65
    go_wp2_with fail
    go_ret
    exact ⟨Ext.refl _, rfl⟩
  · have h0 : a.length = 0 := by omega
    have e1 : a = [] := List.eq_nil_of_length_eq_zero h0
    have e2 : b = [] := List.eq_nil_of_length_eq_zero (by omega)
    subst e1 e2
    rw [cmpW_eq rfl]
    clear hd hna hnb ha hb
    go_enter Try.func65, Try.ntmps65
    go_wp2_with fail
    go_ret
    exact ⟨Ext.refl _, rfl⟩
  · rw [cmpW_gt (val_lt_len hb hna h1)]
    have hq : ((a.length : Int) != (b.length : Int)) = true := by rw [bne_iff_ne]; omega
    clear hd hna hnb ha hb
    go_enter Try.func65, Try.ntmps65
    go_wp2_with fail
    go_ret
    exact ⟨Ext.refl _, rfl⟩

set_option maxHeartbeats 1000000 in
theorem cmp_words (b1 o1 b2 o2 : Nat) (a b : List Nat) (m ca cb : Nat) (w : World) (ha : ∀ x ∈ a, x < 18446744073709551616) (hb : ∀ x ∈ b, x < 18446744073709551616) (hma : a.length = m) (hmb : b.length = m) (hm : 0 < m) (hml : m ≤ 17592186044416)
    (ka : ∀ i, i < m → w.cell? ⟨b1, o1 + i, none⟩ = some (.int .u64 (a.getD i 0 : Nat))) (kb : ∀ i, i < m → w.cell? ⟨b2, o2 + i, none⟩ = some (.int .u64 (b.getD i 0 : Nat))) :
    Calls Try.prog 65 #[.slice (some ⟨b1, o1, none⟩) m ca, .slice (some ⟨b2, o2, none⟩) m cb] w (ValR (.int .i64 (cmpW a b)) w) := by
  generalize hc : cmpW a b = c
  have HC := Lib.hid hc
  have HA := Lib.hid ha
  have HB := Lib.hid hb
  have KA := Lib.hid ka
  have KB := Lib.hid kb
  have HMA := Lib.hid hma
  have HMB := Lib.hid hmb
  have hq : ((m : Int) != (m : Int)) = false := by simp
  have hq0 : ((m : Int) == 0) = false := by simp; omega
  clear hc ha hb ka kb hma hmb
  go_enter Try.func65, Try.ntmps65
  go_wp2_with fail
  go_loopw [7] (fun i wr => ∃ k : Nat, k < m ∧ i = .int .i64 k ∧ Hid (val (a.drop (k + 1)) = val (b.drop (k + 1))) ∧ Hid (Ext w wr)) (fun i _ => (intOf i).toNat)
  case atStart => exact ⟨m - 1, by omega, by go_num, by rw [val_drop_all a _ (by rw [HMA.out]; omega), val_drop_all b _ (by rw [HMB.out]; omega)]; exact rfl, Ext.refl w⟩
  case round =>
    obtain ⟨k, hk, rfl, hn, hext⟩ := hrel
    obtain ⟨x, hx⟩ : ∃ x, a.getD k 0 = x := ⟨_, rfl⟩
    obtain ⟨y, hy⟩ : ∃ y, b.getD k 0 = y := ⟨_, rfl⟩
    have hca : wr.cell? ⟨b1, o1 + k, none⟩ = some (.int .u64 x) := by rw [← hx]; exact hext.out.cell (KA.out k hk)
    have hcb : wr.cell? ⟨b2, o2 + k, none⟩ = some (.int .u64 y) := by rw [← hy]; exact hext.out.cell (KB.out k hk)
    have HX := Lib.hid hx
    have HY := Lib.hid hy
    clear hx hy
    have hk0 : (0 : Int) ≤ (k : Int) := by omega
    have hk1 : (k : Int) < (m : Int) := by omega
    by_cases hgo : 0 < k ∧ x = y
    · obtain ⟨h0, rfl⟩ := hgo
      go_wp2_with fail
      go_quiet (fail)
      go_wp2_with fail
      go_roundw
      case rel => exact ⟨k - 1, by omega, by go_num, by rw [show k - 1 + 1 = k by omega, val_drop a k, val_drop b k, HX.out, HY.out, hn.out]; exact rfl, hext.out.trans (Ext.drewN _ _)⟩
      case measure => simp [intOf]; omega
    · rcases Nat.lt_trichotomy x y with hxy | hxy | hxy
      · obtain rfl : c = -1 := by rw [← HC.out]; exact cmpW_lt (val_lt_of HA.out k hn.out (by rw [HX.out, HY.out]; exact hxy))
        have hne : ((x : Int) == (y : Int)) = false := by simp; omega
        by_cases h0 : 0 < k
        · go_wp2_with fail; go_quiet (fail); go_wp2_with fail
          go_quiet (fail); go_wp2_with fail
          go_ret
          exact ⟨by first | exact ((hext.out.trans (Ext.drewN _ _)).trans (Ext.drewN _ _)).trans (Ext.drewN _ _) | exact (hext.out.trans (Ext.drewN _ _)).trans (Ext.drewN _ _) | exact hext.out.trans (Ext.drewN _ _), rfl⟩
        · have hd0 : decide ((0 : Int) < (k : Int)) = false := by simp; omega
          go_wp2_with fail; go_quiet (fail); go_wp2_with fail
          go_quiet (fail); go_wp2_with fail
          go_ret
          exact ⟨by first | exact ((hext.out.trans (Ext.drewN _ _)).trans (Ext.drewN _ _)).trans (Ext.drewN _ _) | exact (hext.out.trans (Ext.drewN _ _)).trans (Ext.drewN _ _) | exact hext.out.trans (Ext.drewN _ _), rfl⟩
      · subst hxy
        have h0 : ¬ 0 < k := fun h => hgo ⟨h, rfl⟩
        obtain rfl : c = 0 := by
          obtain rfl : k = 0 := by omega
          rw [← HC.out]
          refine cmpW_eq ?_
          have e1 := val_drop a 0
          have e2 := val_drop b 0
          rw [HX.out, hn.out] at e1
          rw [HY.out] at e2
          simpa using e2.trans e1.symm
        have hd0 : decide ((0 : Int) < (k : Int)) = false := by simp; omega
        go_wp2_with fail; go_quiet (fail); go_wp2_with fail
        go_quiet (fail); go_wp2_with fail
        go_quiet (fail); go_wp2_with fail
        go_ret
        exact ⟨by first | exact ((hext.out.trans (Ext.drewN _ _)).trans (Ext.drewN _ _)).trans (Ext.drewN _ _) | exact (hext.out.trans (Ext.drewN _ _)).trans (Ext.drewN _ _) | exact hext.out.trans (Ext.drewN _ _), rfl⟩
      · obtain rfl : c = 1 := by rw [← HC.out]; exact cmpW_gt (val_lt_of HB.out k hn.out.symm (by rw [HX.out, HY.out]; exact hxy))
        have hne : ((x : Int) == (y : Int)) = false := by simp; omega
        by_cases h0 : 0 < k
        · go_wp2_with fail; go_quiet (fail); go_wp2_with fail
          go_quiet (fail); go_wp2_with fail
          go_quiet (fail); go_wp2_with fail
          go_ret
          exact ⟨by first | exact ((hext.out.trans (Ext.drewN _ _)).trans (Ext.drewN _ _)).trans (Ext.drewN _ _) | exact (hext.out.trans (Ext.drewN _ _)).trans (Ext.drewN _ _) | exact hext.out.trans (Ext.drewN _ _), rfl⟩
        · have hd0 : decide ((0 : Int) < (k : Int)) = false := by simp; omega
          go_wp2_with fail; go_quiet (fail); go_wp2_with fail
          go_quiet (fail); go_wp2_with fail
          go_quiet (fail); go_wp2_with fail
          go_ret
          exact ⟨by first | exact ((hext.out.trans (Ext.drewN _ _)).trans (Ext.drewN _ _)).trans (Ext.drewN _ _) | exact (hext.out.trans (Ext.drewN _ _)).trans (Ext.drewN _ _) | exact hext.out.trans (Ext.drewN _ _), rfl⟩

end Go.Proofs.Ytacmojhladdalaa
