/- The table that the row lists, as the walks read it. -/
import Derived.Test.YtdodcmncdlnceaaDoorTz
import Derived.Test.YtdodcmncdlnceaaDoorRows
import Derived.Test.YtdodcmncdlnceaaDoorRow
import Derived.Lib.LaidTab
import Derived.LaidMore
import Derived.Stop.Joined
import Derived.Stop.LaidErr
set_option linter.unusedSimpArgs false
set_option linter.unusedVariables false
namespace Go.Proofs.YtdodcmncdlnceaaDoor
open Go.RowKit

theorem g64 : Tryd.prog.globalNamed "math/bits.deBruijn64tab" = some 1 := by kernel_rfl

theorem g64Type : (Tryd.prog.globals[1]?).map (·.type) = some 61 := by kernel_rfl

theorem laid_tab (W : World) (h : laidMetH Tryd.prog [("math/bits.deBruijn32tab", Rows.laid_math_bits_deBruijn32tab), ("math/bits.deBruijn64tab", Rows.laid_math_bits_deBruijn64tab)] W) : Tab64 W := by
  rw [MakeChecks.laidMetH_plain _ _ _ (by kernel_rfl)] at h
  have h1 : Lib.TabIs Tryd.prog W "math/bits.deBruijn64tab" .u8 (Lib.deBruijn64tab.map fun n : Nat => (n : Int)) := Lib.tabIs_of_head g64 g64Type Tryd.underlying61 Tryd.underlying5 (by kernel_rfl) (by kernel_rfl) (laidMet.tail h)
  intro j hj
  have := h1.cell g64 j (by simpa using hj)
  rw [this, List.getD_eq_getElem?_getD, List.getD_eq_getElem?_getD, List.getElem?_map, List.getElem?_eq_getElem hj]
  rfl

end Go.Proofs.YtdodcmncdlnceaaDoor
