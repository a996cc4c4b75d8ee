/- The reference, more: word, compare, integer, Trim, Abs, SetBits, FromUint, SameNumber, and the law's own 'same', 'fromImpl', 'fromSpec': contracts. -/
import Derived.Test.YtacmojhladdalaaHelp
set_option linter.unusedSimpArgs false
set_option linter.unusedVariables false
namespace Go.Proofs.Ytacmojhladdalaa
open Go.RowKit

theorem results_spec {fn : Func} {t : Tmp} (h : fn.results = #[.cell t 25]) (tmps : Array Value) {p : Nat} (ht : tmps.getD t undef = .pointer (some ⟨p, 0, none⟩)) {w : World} {x y : Value} (d0 : w.cell? ⟨p, 0, none⟩ = some x) (d1 : w.cell? ⟨p, 1, none⟩ = some y) :
    (results fn tmps).run Try.prog w = .ok (.agg #[x, y]) w := by
  simp at ht
  simp [results, h, ht, go_sem, d0, d1]

theorem results_impl {fn : Func} {t : Tmp} (h : fn.results = #[.cell t 30]) (tmps : Array Value) {p : Nat} (ht : tmps.getD t undef = .pointer (some ⟨p, 0, none⟩)) {w : World} {x y : Value} (d0 : w.cell? ⟨p, 0, none⟩ = some x) (d1 : w.cell? ⟨p, 1, none⟩ = some y) :
    (results fn tmps).run Try.prog w = .ok (.agg #[x, y]) w := by
  simp at ht
  simp [results, h, ht, go_sem, d0, d1]

theorem results_laws {fn : Func} {t : Tmp} (h : fn.results = #[.cell t 24]) (tmps : Array Value) {p : Nat} (ht : tmps.getD t undef = .pointer (some ⟨p, 0, none⟩)) {w : World} {x y : Value} (d0 : w.cell? ⟨p, 0, none⟩ = some x) (d1 : w.cell? ⟨p, 1, none⟩ = some y) :
    (results fn tmps).run Try.prog w = .ok (.agg #[x, y]) w := by
  simp at ht
  simp [results, h, ht, go_sem, d0, d1]

/-- A block of two cells, both written. -/
theorem set2 {w : World} {p : Nat} {x y : Value} {T : TypeId} (hp : w.heap[p]? = some (.cells #[x, y] T (0, 0))) (u v : Value) :
    ((w.setCell ⟨p, 0, none⟩ u).setCell ⟨p, 1, none⟩ v).cell? ⟨p, 0, none⟩ = some u ∧ ((w.setCell ⟨p, 0, none⟩ u).setCell ⟨p, 1, none⟩ v).cell? ⟨p, 1, none⟩ = some v ∧ Upd (· = p) w ((w.setCell ⟨p, 0, none⟩ u).setCell ⟨p, 1, none⟩ v) := by
  have h := blk2_set1 (blk2_set0 hp u) v
  exact ⟨by rw [blk_cell h]; rfl, by rw [blk_cell h]; rfl, ((Upd.refl (· = p) _).setCell (by rfl) _).setCell (by rfl) _⟩

theorem word_any (v : Value) (ws : List Nat) (i x : Nat) (w : World) (h : Rd .u64 w v ws) (hi : i ≤ 9223372036854775807) (hx : ws.getD i 0 = x) :
    Calls Try.prog 55 #[v, .int .i64 i] w fun e w' => e = .returned (.int .u64 x) ∧ w = w' := by
  obtain ⟨_, a, cap, rfl, hlc, hcap, hnil, hcells⟩ := h
  by_cases hlt : i < ws.length
  · obtain ⟨b, off, rfl, hc⟩ := hcells i hlt
    rw [hx] at hc
    clear hcells hnil hx
    go_enter Try.func55, Try.ntmps55
    go_wp2
    go_ret
    exact ⟨rfl, rfl⟩
  · obtain rfl : x = 0 := by rw [← hx]; simp [Nat.not_lt.1 hlt]
    clear hcells hnil hx
    go_enter Try.func55, Try.ntmps55
    go_wp2
    go_ret
    exact ⟨rfl, rfl⟩

/-- How words compare. -/
def cmpW (a b : List Nat) : Int := cmpZ (val a) (val b)

theorem cmpW_lt {a b : List Nat} (h : val a < val b) : cmpW a b = -1 := by unfold cmpW cmpZ; rw [if_pos (by omega)]

theorem cmpW_gt {a b : List Nat} (h : val b < val a) : cmpW a b = 1 := by unfold cmpW cmpZ; rw [if_neg (by omega), if_pos (by omega)]

theorem cmpW_eq {a b : List Nat} (h : val b = val a) : cmpW a b = 0 := by unfold cmpW cmpZ; rw [if_neg (by omega), if_neg (by omega)]

set_option maxHeartbeats 1000000 in
theorem compare_any (u v : Value) (a b : List Nat) (w : World) (ha : Rd .u64 w u a) (hb : Rd .u64 w v b) (hla : a.length ≤ 9223372036854775806) (hlb : b.length ≤ 9223372036854775806) :
    Calls Try.prog 56 #[u, v] w fun e w' => e = .returned (.int .i64 (cmpW a b)) ∧ w = w' := by
  have hba : ∀ x ∈ a, x < 18446744073709551616 := ha.1
  have hbb : ∀ x ∈ b, x < 18446744073709551616 := hb.1
  obtain ⟨aa, ca, rfl⟩ := ha.form
  obtain ⟨ab, cb, rfl⟩ := hb.form
  have HA := Lib.hid ha
  have HB := Lib.hid hb
  have HBA := Lib.hid hba
  have HBB := Lib.hid hbb
  clear ha hb hba hbb
  generalize hc : cmpW a b = c
  have HC := Lib.hid hc
  clear hc
  obtain ⟨m, hm, hma, hmb, hml⟩ : ∃ m : Nat, m = (if a.length < b.length then b.length else a.length) ∧ a.length ≤ m ∧ b.length ≤ m ∧ m ≤ 9223372036854775806 := ⟨_, rfl, by split <;> omega, by split <;> omega, by split <;> omega⟩
  by_cases hmx : a.length < b.length
  all_goals
    simp only [hmx, if_true, if_false] at hm
    go_enter Try.func56, Try.ntmps56
    go_wp2_with fail
    go_loop [5] (fun i => ∃ k : Nat, k ≤ m ∧ i = .int .i64 ((k : Int) - 1) ∧ Hid (val (a.drop k) = val (b.drop k))) (fun i => (intOf i + 1).toNat)
    case atStart => exact ⟨m, Nat.le_refl _, by rw [hm], by rw [val_drop_all a m hma, val_drop_all b m hmb]; exact rfl⟩
    case round =>
      obtain ⟨k, hk, rfl, hn⟩ := hrel
      clear hm
      cases k with
      | zero =>
        rw [show ((0 : Nat) : Int) - 1 = -1 from rfl]
        go_wp2_with fail
        go_ret
        rw [← HC.out, cmpW_eq (by simpa using hn.out.symm)]
        exact ⟨rfl, rfl⟩
      | succ j =>
        rw [show ((j + 1 : Nat) : Int) - 1 = (j : Int) by omega]
        obtain ⟨x, hx⟩ : ∃ x, a.getD j 0 = x := ⟨_, rfl⟩
        obtain ⟨y, hy⟩ : ∃ y, b.getD j 0 = y := ⟨_, rfl⟩
        have HX := Lib.hid hx
        have HY := Lib.hid hy
        clear hx hy
        rcases Nat.lt_trichotomy x y with hxy | hxy | hxy
        · go_wp2_with fail
          refine (word_any _ a j x _ HA.out (by omega) HX.out).mono ?_
          rintro e w1 ⟨rfl, rfl⟩
          go_wp2_with fail
          refine (word_any _ b j y _ HB.out (by omega) HY.out).mono ?_
          rintro e w1 ⟨rfl, rfl⟩
          go_wp2_with fail
          go_ret
          rw [← HC.out, cmpW_lt (val_lt_of HBA.out j hn.out (by rw [HX.out, HY.out]; exact hxy))]
          exact ⟨rfl, rfl⟩
        · subst hxy
          go_wp2_with fail
          refine (word_any _ a j x _ HA.out (by omega) HX.out).mono ?_
          rintro e w1 ⟨rfl, rfl⟩
          go_wp2_with fail
          refine (word_any _ b j x _ HB.out (by omega) HY.out).mono ?_
          rintro e w1 ⟨rfl, rfl⟩
          go_wp2_with fail
          refine (word_any _ a j x _ HA.out (by omega) HX.out).mono ?_
          rintro e w1 ⟨rfl, rfl⟩
          go_wp2_with fail
          refine (word_any _ b j x _ HB.out (by omega) HY.out).mono ?_
          rintro e w1 ⟨rfl, rfl⟩
          go_wp2_with fail
          go_round
          case rel => exact ⟨j, by omega, by go_num, by rw [val_drop a j, val_drop b j, HX.out, HY.out, hn.out]; exact rfl⟩
          case measure => simp [intOf]
        · go_wp2_with fail
          refine (word_any _ a j x _ HA.out (by omega) HX.out).mono ?_
          rintro e w1 ⟨rfl, rfl⟩
          go_wp2_with fail
          refine (word_any _ b j y _ HB.out (by omega) HY.out).mono ?_
          rintro e w1 ⟨rfl, rfl⟩
          go_wp2_with fail
          refine (word_any _ a j x _ HA.out (by omega) HX.out).mono ?_
          rintro e w1 ⟨rfl, rfl⟩
          go_wp2_with fail
          refine (word_any _ b j y _ HB.out (by omega) HY.out).mono ?_
          rintro e w1 ⟨rfl, rfl⟩
          go_wp2_with fail
          go_ret
          rw [← HC.out, cmpW_gt (val_lt_of HBB.out j hn.out.symm (by rw [HX.out, HY.out]; exact hxy))]
          exact ⟨rfl, rfl⟩

theorem specInteger_any (n : Bool) (v : Value) (ws : List Nat) (w : World) (h : Rd .u64 w v ws) (hl : ws.length ≤ 17592186044416) :
    Calls Try.prog 37 #[.bool n, v] w (NumR (decide (0 < (norm ws).length) && n) (norm ws) w) := by
  obtain ⟨a, cap, rfl⟩ := h.form
  have hnl := norm_length_le ws
  have H := Lib.hid h
  clear h
  go_enter Try.func37, Try.ntmps37
  go_wp2_with fail
  refine (trim_any _ ws _ (H.out.ext (Ext.alloc _ _)) hl).mono ?_
  rintro e w1 ⟨he, v', rfl, ho⟩
  obtain ⟨a', cap', rfl⟩ := ho.form
  have hp : w1.heap[w.heap.size]? = some (.cells #[.bool false, .slice none 0 0] 25 (0, 0)) := he.block (heap_alloc_new _ _)
  have c0 := blk_cell hp 0
  have c1 := blk_cell hp 1
  have f0 := blk_free hp 0
  have f1 := blk_free hp 1
  simp at c0 c1
  have HP := Lib.hid hp
  have HE := Lib.hid ((Ext.alloc _ _).trans he)
  generalize hm : norm ws = m at *
  have HM := Lib.hid hm
  clear hp he hm
  have hml : m.length ≤ 9223372036854775807 := by omega
  clear hnl
  by_cases hpos : 0 < m.length
  all_goals
    cases n
    all_goals
      go_wp2_with fail
      obtain ⟨d0, d1, hu⟩ := set2 HP.out (.bool (decide (0 < m.length) && false)) (.slice a' m.length cap')
      obtain ⟨d0', d1', hu'⟩ := set2 HP.out (.bool (decide (0 < m.length) && true)) (.slice a' m.length cap')
      simp only [hpos, decide_true, decide_false, Bool.true_and, Bool.false_and] at d0 d1 hu d0' d1' hu' ⊢
      first
        | exact bodyPost_ret (results_spec rfl _ rfl d0 d1) rfl ⟨hu.ext HE.out (by omega), _, rfl, ho.upd HP.out (by decide) hu⟩
        | exact bodyPost_ret (results_spec rfl _ rfl d0' d1') rfl ⟨hu'.ext HE.out (by omega), _, rfl, ho.upd HP.out (by decide) hu'⟩

end Go.Proofs.Ytacmojhladdalaa
