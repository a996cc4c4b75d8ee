/- The reference, more: word, compare, integer, Trim, Abs, SetBits, FromUint, SameNumber, and the law's own 'same', 'fromImpl', 'fromSpec': contracts. -/
import Derived.Test.YtdodcmncdlnceaaDoorHelp
set_option linter.unusedSimpArgs false
set_option linter.unusedVariables false
namespace Go.Proofs.YtdodcmncdlnceaaDoor
open Go.RowKit

theorem results_spec {fn : Func} {t : Tmp} (h : fn.results = #[.cell t 26]) (tmps : Array Value) {p : Nat} (ht : tmps.getD t undef = .pointer (some ⟨p, 0, none⟩)) {w : World} {x y : Value} (d0 : w.cell? ⟨p, 0, none⟩ = some x) (d1 : w.cell? ⟨p, 1, none⟩ = some y) :
    (results fn tmps).run Tryd.prog w = .ok (.agg #[x, y]) w := by
  simp at ht
  simp [results, h, ht, go_sem, d0, d1]

theorem results_impl {fn : Func} {t : Tmp} (h : fn.results = #[.cell t 30]) (tmps : Array Value) {p : Nat} (ht : tmps.getD t undef = .pointer (some ⟨p, 0, none⟩)) {w : World} {x y : Value} (d0 : w.cell? ⟨p, 0, none⟩ = some x) (d1 : w.cell? ⟨p, 1, none⟩ = some y) :
    (results fn tmps).run Tryd.prog w = .ok (.agg #[x, y]) w := by
  simp at ht
  simp [results, h, ht, go_sem, d0, d1]

theorem results_laws {fn : Func} {t : Tmp} (h : fn.results = #[.cell t 24]) (tmps : Array Value) {p : Nat} (ht : tmps.getD t undef = .pointer (some ⟨p, 0, none⟩)) {w : World} {x y : Value} (d0 : w.cell? ⟨p, 0, none⟩ = some x) (d1 : w.cell? ⟨p, 1, none⟩ = some y) :
    (results fn tmps).run Tryd.prog w = .ok (.agg #[x, y]) w := by
  simp at ht
  simp [results, h, ht, go_sem, d0, d1]

/-- A block of two cells, both written. -/
theorem set2 {w : World} {p : Nat} {x y : Value} {T : TypeId} (hp : w.heap[p]? = some (.cells #[x, y] T (0, 0))) (u v : Value) :
    ((w.setCell ⟨p, 0, none⟩ u).setCell ⟨p, 1, none⟩ v).cell? ⟨p, 0, none⟩ = some u ∧ ((w.setCell ⟨p, 0, none⟩ u).setCell ⟨p, 1, none⟩ v).cell? ⟨p, 1, none⟩ = some v ∧ Upd (· = p) w ((w.setCell ⟨p, 0, none⟩ u).setCell ⟨p, 1, none⟩ v) := by
  have h := blk2_set1 (blk2_set0 hp u) v
  exact ⟨by rw [blk_cell h]; rfl, by rw [blk_cell h]; rfl, ((Upd.refl (· = p) _).setCell (by rfl) _).setCell (by rfl) _⟩

theorem word_any (v : Value) (ws : List Nat) (i x : Nat) (w : World) (h : Rd .u64 w v ws) (hi : i ≤ 9223372036854775807) (hx : ws.getD i 0 = x) :
    Calls Tryd.prog 27 #[v, .int .i64 i] w fun e w' => e = .returned (.int .u64 x) ∧ w = w' := by
  obtain ⟨_, a, cap, rfl, hlc, hcap, hnil, hcells⟩ := h
  by_cases hlt : i < ws.length
  · obtain ⟨b, off, rfl, hc⟩ := hcells i hlt
    rw [hx] at hc
    clear hcells hnil hx
    go_enter Tryd.func27, Tryd.ntmps27
    go_wp2
    go_ret
    exact ⟨rfl, rfl⟩
  · obtain rfl : x = 0 := by rw [← hx]; simp [Nat.not_lt.1 hlt]
    clear hcells hnil hx
    go_enter Tryd.func27, Tryd.ntmps27
    go_wp2
    go_ret
    exact ⟨rfl, rfl⟩

/-- How words compare. -/
def cmpW (a b : List Nat) : Int := cmpZ (val a) (val b)

theorem cmpW_lt {a b : List Nat} (h : val a < val b) : cmpW a b = -1 := by unfold cmpW cmpZ; rw [if_pos (by omega)]

theorem cmpW_gt {a b : List Nat} (h : val b < val a) : cmpW a b = 1 := by unfold cmpW cmpZ; rw [if_neg (by omega), if_pos (by omega)]

theorem cmpW_eq {a b : List Nat} (h : val b = val a) : cmpW a b = 0 := by unfold cmpW cmpZ; rw [if_neg (by omega), if_neg (by omega)]

theorem specInteger_any (n : Bool) (v : Value) (ws : List Nat) (w : World) (h : Rd .u64 w v ws) (hl : ws.length ≤ 17592186044416) :
    Calls Tryd.prog 28 #[.bool n, v] w (NumR (decide (0 < (norm ws).length) && n) (norm ws) w) := by
  obtain ⟨a, cap, rfl⟩ := h.form
  have hnl := norm_length_le ws
  have H := Lib.hid h
  clear h
  go_enter Tryd.func28, Tryd.ntmps28
  go_wp2_with fail
  refine (trim_any _ ws _ (H.out.ext (Ext.alloc _ _)) hl).mono ?_
  rintro e w1 ⟨he, v', rfl, ho⟩
  obtain ⟨a', cap', rfl⟩ := ho.form
  have hp : w1.heap[w.heap.size]? = some (.cells #[.bool false, .slice none 0 0] 26 (0, 0)) := he.block (heap_alloc_new _ _)
  have c0 := blk_cell hp 0
  have c1 := blk_cell hp 1
  have f0 := blk_free hp 0
  have f1 := blk_free hp 1
  simp at c0 c1
  have HP := Lib.hid hp
  have HE := Lib.hid ((Ext.alloc _ _).trans he)
  generalize hm : norm ws = m at *
  have HM := Lib.hid hm
  clear hp he hm
  have hml : m.length ≤ 9223372036854775807 := by omega
  clear hnl
  by_cases hpos : 0 < m.length
  all_goals
    cases n
    all_goals
      go_wp2_with fail
      obtain ⟨d0, d1, hu⟩ := set2 HP.out (.bool (decide (0 < m.length) && false)) (.slice a' m.length cap')
      obtain ⟨d0', d1', hu'⟩ := set2 HP.out (.bool (decide (0 < m.length) && true)) (.slice a' m.length cap')
      simp only [hpos, decide_true, decide_false, Bool.true_and, Bool.false_and] at d0 d1 hu d0' d1' hu' ⊢
      first
        | exact bodyPost_ret (results_spec rfl _ rfl d0 d1) rfl ⟨hu.ext HE.out (by omega), _, rfl, ho.upd HP.out (by decide) hu⟩
        | exact bodyPost_ret (results_spec rfl _ rfl d0' d1') rfl ⟨hu'.ext HE.out (by omega), _, rfl, ho.upd HP.out (by decide) hu'⟩

end Go.Proofs.YtdodcmncdlnceaaDoor
