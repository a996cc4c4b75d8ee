/- (*Int).Cmp (printed by lawgen.py). -/
import Derived.Test.YtdodcmncdlnceaaDoorHelpers
import Derived.Test.YtdodcmncdlnceaaDoorCmp2
set_option linter.unusedSimpArgs false
set_option linter.unusedVariables false
namespace Go.Proofs.YtdodcmncdlnceaaDoor
open Go.RowKit

theorem eqlOther {p q : Nat} (hpq : p ≠ q) {w : World} {c d : Array Value} {T U : TypeId} (hp : w.heap[p]? = some (.cells c T (0, 0))) (hq : w.heap[q]? = some (.cells d U (0, 0))) :
    (binOp .eql 38 (.pointer (some ⟨p, 0, none⟩)) (.pointer (some ⟨q, 0, none⟩))).run Tryd.prog w = .ok (.bool false) w := by
  obtain ⟨j, h1, h2⟩ := infoInt'
  exact run_eql_ptr_other w Tryd.underlying38 h1 (by omega) (a := ⟨p, 0, none⟩) (b := ⟨q, 0, none⟩) (by simp [hpq]) hp hq

theorem eqlSame (a : Addr) (w : World) : (binOp .eql 38 (.pointer (some a)) (.pointer (some a))).run Tryd.prog w = .ok (.bool true) w := by
  obtain ⟨j, h1, _⟩ := infoInt'
  exact run_eql_ptr_same w a Tryd.underlying38 h1

theorem Rd.unique {k : IntKind} {w : World} {a : Option Addr} {n m c c' : Nat} {ws vs : List Nat} (h : Rd k w (.slice a n c) ws) (h' : Rd k w (.slice a m c') vs) (hl : ws.length = vs.length) : ws = vs := by
  obtain ⟨_, a1, c1, e1, _, _, _, r1⟩ := h
  obtain ⟨_, a2, c2, e2, _, _, _, r2⟩ := h'
  simp at e1 e2
  obtain ⟨rfl, _, _⟩ := e1
  obtain ⟨rfl, _, _⟩ := e2
  refine List.ext_getElem hl fun i hi hi' => ?_
  obtain ⟨b, o, q1, q2⟩ := r1 i hi
  obtain ⟨b', o', q3, q4⟩ := r2 i hi'
  rw [q1] at q3
  simp at q3
  obtain ⟨rfl, rfl⟩ := q3
  rw [q2] at q4
  simp only [Option.some.injEq, Value.int.injEq, true_and, List.getD_eq_getElem?_getD, List.getElem?_eq_getElem hi, List.getElem?_eq_getElem hi', Option.getD_some] at q4
  omega

theorem cmpZ_tri (a b : Int) : cmpZ a b = -1 ∨ cmpZ a b = 0 ∨ cmpZ a b = 1 := by
  unfold cmpZ; split
  · exact .inl rfl
  · split
    · exact .inr (.inr rfl)
    · exact .inr (.inl rfl)

theorem cmpZ_neg_abs {a b : Int} (ha : a < 0) (hb : b < 0) : -(cmpZ (a.natAbs : Int) (b.natAbs : Int)) = cmpZ a b := by
  rcases Int.lt_trichotomy a b with q | q | q
  · rw [cmpZ_lt q, cmpZ_gt (by omega)]
  · rw [cmpZ_eq q, cmpZ_eq (by omega)]; rfl
  · rw [cmpZ_gt q, cmpZ_lt (by omega)]; rfl

theorem cmpZ_pos_abs {a b : Int} (ha : ¬ a < 0) (hb : ¬ b < 0) : cmpZ (a.natAbs : Int) (b.natAbs : Int) = cmpZ a b := by
  rw [Int.natAbs_of_nonneg (by omega), Int.natAbs_of_nonneg (by omega)]

end Go.Proofs.YtdodcmncdlnceaaDoor

