/-
  DERIVED. GIVEN WITH THE SEED: THE CARDS: each row of YtdodcmncdlnceaaDoorRows.lean that lists a variable, with what it lists TIED to the program's text (the seventh form; the later family's looks); each row that meets fmt, with fmt's text TOLD by the authors' own Lean function (tested against real Go, not proved from fmt's source: count such statements apart). THE CARD IS WHAT COUNTS. Prove the row's statement (the work); the ties are given (YtdodcmncdlnceaaDoorTie.lean); close each card by the builder's one call (the guide's Derived/Test/ToyasCard.lean, 'card_holds'). Laid BY PROGRAM, IN A SANDBOX (cutbox-door.mjs). By AI agents, Wed Nov 11 2026. No macro, syntax, notation, axiom, sorry.
-/
import Derived.Test.YtdodcmncdlnceaaDoorRows
import GoSem.ClaimSeven
namespace Go.Proofs.YtdodcmncdlnceaaDoor
namespace Rows

/-- THE TIED CARD OF 'laws.FnExactTrailingZeroBits'. -/
def fnExactTrailingZeroBitsCard : Claim7 := { stood := { row := fnExactTrailingZeroBitsRow, standIns := [], harness := (true, "d33925ac307d6733cb664da0aabb631814c41288d6d269d829be289a781ddd7f"), looks := false }, kinds := [], alts := [], laidByText := true, laidKinds := [.data, .data], laidTests := true, laidLooks := .later }
def FnExactTrailingZeroBitsCardSaid : Prop := Claim7.holds Tryd.pinned (.plain (OpenSpec.ofChange fnExactTrailingZeroBitsSpec)) fnExactTrailingZeroBitsCard

/-- THE TIED CARD OF 'laws.FnTrailingZero'. -/
def fnTrailingZeroCard : Claim7 := { stood := { row := fnTrailingZeroRow, standIns := [], harness := (true, "d33925ac307d6733cb664da0aabb631814c41288d6d269d829be289a781ddd7f"), looks := false }, kinds := [], alts := [], laidByText := true, laidKinds := [.data, .data], laidTests := true, laidLooks := .later }
def FnTrailingZeroCardSaid : Prop := Claim7.holds Tryd.pinned (.plain (OpenSpec.ofChange fnTrailingZeroSpec)) fnTrailingZeroCard

/-- THE SECOND FORM's CARD OF 'laws.FnExactTrailingZeroBits'. -/
def fnExactTrailingZeroBitsUptoCard : Claim7 := { stood := { row := fnExactTrailingZeroBitsUptoRow, standIns := [], harness := (true, "d33925ac307d6733cb664da0aabb631814c41288d6d269d829be289a781ddd7f"), looks := false }, kinds := [], alts := [], laidByText := true, laidKinds := [.data, .data], laidTests := true, laidLooks := .later }
def FnExactTrailingZeroBitsUptoCardSaid : Prop := Claim7.holds Tryd.pinned (.plain (OpenSpec.upto fnExactTrailingZeroBitsSpec)) fnExactTrailingZeroBitsUptoCard

/-- THE SECOND FORM's CARD OF 'laws.FnTrailingZero'. -/
def fnTrailingZeroUptoCard : Claim7 := { stood := { row := fnTrailingZeroUptoRow, standIns := [], harness := (true, "d33925ac307d6733cb664da0aabb631814c41288d6d269d829be289a781ddd7f"), looks := false }, kinds := [], alts := [], laidByText := true, laidKinds := [.data, .data], laidTests := true, laidLooks := .later }
def FnTrailingZeroUptoCardSaid : Prop := Claim7.holds Tryd.pinned (.plain (OpenSpec.upto fnTrailingZeroSpec)) fnTrailingZeroUptoCard
end Rows
end Go.Proofs.YtdodcmncdlnceaaDoor
