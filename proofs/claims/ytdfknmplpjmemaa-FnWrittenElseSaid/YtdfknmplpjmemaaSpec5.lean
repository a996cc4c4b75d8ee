/- spec.IsInt64 by values (printed by lawgen.py). -/
import Derived.Test.YtdfknmplpjmemaaSpec4
set_option linter.unusedSimpArgs false
set_option linter.unusedVariables false
namespace Go.Proofs.Ytdfknmplpjmemaa
open Go.RowKit

/-- A slice that reads as words. -/
def IsR (ws : List Nat) (x : Value) (w : World) : Prop := Rd .u64 w x ws

theorem IsR.ext {ws : List Nat} {x : Value} {w w' : World} (h : IsR ws x w) (he : Ext w w') : IsR ws x w' := Rd.ext h he

theorem rd_one (w : World) (x : Nat) (hx : x < 18446744073709551616) : Rd .u64 (w.alloc (.cells #[.int .u64 (x : Nat)] 25)) (.slice (some ⟨w.heap.size, 0, none⟩) 1 1) [x] := by
  refine ⟨by simpa [lim] using hx, _, 1, rfl, by simp, by simp, by simp, fun i hi => ⟨_, _, rfl, ?_⟩⟩
  simp at hi
  subst hi
  rw [blk_cell (heap_alloc_new _ _)]
  rfl

theorem specInteger_c (n : Bool) (ws : List Nat) (z : Int) (v : Value) (w : World) (h : IsR ws v w) (hz : ival n ws = z) (hl : ws.length ≤ 1) :
    Calls Try.prog 46 #[.bool n, v] w (ResR (IsC 1 z) w) := by
  subst hz
  exact (specInteger_any n v ws w h (by omega)).mono fun e w' h => numC_of 1 hl h

theorem leZ_lo {z : Int} (h : -9223372036854775808 ≤ z) : decide (cmpZ (-9223372036854775808) z ≤ 0) = true := by
  refine decide_eq_true ?_
  unfold cmpZ; split <;> first | omega | (split <;> omega)

theorem leZ_hi {z : Int} (h : z ≤ 9223372036854775807) : decide (cmpZ z 9223372036854775807 ≤ 0) = true := by
  refine decide_eq_true ?_
  unfold cmpZ; split <;> first | omega | (split <;> omega)

theorem gtZ_lo {z : Int} (h : z < -9223372036854775808) : decide (cmpZ (-9223372036854775808) z ≤ 0) = false := by
  refine decide_eq_false ?_
  unfold cmpZ; split <;> first | omega | (split <;> omega)

theorem gtZ_hi {z : Int} (h : 9223372036854775807 < z) : decide (cmpZ z 9223372036854775807 ≤ 0) = false := by
  refine decide_eq_false ?_
  unfold cmpZ; split <;> first | omega | (split <;> omega)

end Go.Proofs.Ytdfknmplpjmemaa

