/-
  DERIVED. GIVEN WITH THE SEED: THE CARDS: each row of YtdfknmplpjmemaaDoorRows.lean that lists a variable, with what it lists TIED to the program's text (the seventh form; the later family's looks); each row that meets fmt, with fmt's text TOLD by the authors' own Lean function (tested against real Go, not proved from fmt's source: count such statements apart). THE CARD IS WHAT COUNTS. Prove the row's statement (the work); the ties are given (YtdfknmplpjmemaaDoorTie.lean); close each card by the builder's one call (the guide's Derived/Test/ToyasCard.lean, 'card_holds'). Laid BY PROGRAM, IN A SANDBOX (cutbox-door.mjs). By AI agents, Wed Nov 11 2026. No macro, syntax, notation, axiom, sorry.
-/
import Derived.Test.YtdfknmplpjmemaaDoorRows
import GoSem.ClaimSeven
namespace Go.Proofs.YtdfknmplpjmemaaDoor
namespace Rows

/-- THE TIED CARD OF 'laws.FnTrailingAdd'. -/
def fnTrailingAddCard : Claim7 := { stood := { row := fnTrailingAddRow, standIns := [], harness := (true, "0e3b41db24d7e825a43ca67bdaea50f87b767de35a647ffc841c4bb423484282"), looks := false }, kinds := [], alts := [], laidByText := true, laidKinds := [.data, .data], laidTests := true, laidLooks := .later }
def FnTrailingAddCardSaid : Prop := Claim7.holds Tryd.pinned (.plain (OpenSpec.ofChange fnTrailingAddSpec)) fnTrailingAddCard

/-- THE TIED CARD OF 'laws.FnTrailingShift'. -/
def fnTrailingShiftCard : Claim7 := { stood := { row := fnTrailingShiftRow, standIns := [], harness := (true, "0e3b41db24d7e825a43ca67bdaea50f87b767de35a647ffc841c4bb423484282"), looks := false }, kinds := [], alts := [], laidByText := true, laidKinds := [.data, .data], laidTests := true, laidLooks := .later }
def FnTrailingShiftCardSaid : Prop := Claim7.holds Tryd.pinned (.plain (OpenSpec.ofChange fnTrailingShiftSpec)) fnTrailingShiftCard

/-- THE SECOND FORM's CARD OF 'laws.FnTrailingAdd'. -/
def fnTrailingAddUptoCard : Claim7 := { stood := { row := fnTrailingAddUptoRow, standIns := [], harness := (true, "0e3b41db24d7e825a43ca67bdaea50f87b767de35a647ffc841c4bb423484282"), looks := false }, kinds := [], alts := [], laidByText := true, laidKinds := [.data, .data], laidTests := true, laidLooks := .later }
def FnTrailingAddUptoCardSaid : Prop := Claim7.holds Tryd.pinned (.plain (OpenSpec.upto fnTrailingAddSpec)) fnTrailingAddUptoCard

/-- THE SECOND FORM's CARD OF 'laws.FnTrailingShift'. -/
def fnTrailingShiftUptoCard : Claim7 := { stood := { row := fnTrailingShiftUptoRow, standIns := [], harness := (true, "0e3b41db24d7e825a43ca67bdaea50f87b767de35a647ffc841c4bb423484282"), looks := false }, kinds := [], alts := [], laidByText := true, laidKinds := [.data, .data], laidTests := true, laidLooks := .later }
def FnTrailingShiftUptoCardSaid : Prop := Claim7.holds Tryd.pinned (.plain (OpenSpec.upto fnTrailingShiftSpec)) fnTrailingShiftUptoCard
end Rows
end Go.Proofs.YtdfknmplpjmemaaDoor
