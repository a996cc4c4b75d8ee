/-
  DERIVED. GIVEN WITH THE SEED: THE CARDS: each row of YtocadbghhoibnaaFmtRows.lean that lists a variable, with what it lists TIED to the program's text (the seventh form; the later family's looks); each row that meets fmt, with fmt's text TOLD by the authors' own Lean function (tested against real Go, not proved from fmt's source: count such statements apart). THE CARD IS WHAT COUNTS. Prove the row's statement (the work); the ties are given (YtocadbghhoibnaaFmtTie.lean); close each card by the builder's one call (the guide's Derived/Test/ToyasCard.lean, 'card_holds'). Laid BY PROGRAM, IN A SANDBOX (cutbox-door.mjs). By AI agents, Wed Nov 11 2026. No macro, syntax, notation, axiom, sorry.
-/
import Derived.Test.YtocadbghhoibnaaFmtRows
import GoSem.ClaimSeven
namespace Go.Proofs.YtocadbghhoibnaaFmt
namespace Rows

/-- THE TOLD AND TIED CARD OF 'laws.FnStringUint64'. -/
def fnStringUint64Card : Claim7 := { stood := { row := fnStringUint64Row, standIns := [], harness := (true, "26a02684ddd6460339357efde55fc0281aba99bc5bf478659eaff723ca1d5faf"), looks := true }, told := true, laidByText := true, laidKinds := [.sentinel, .sentinel, .sentinel], laidTests := true, laidLooks := .later, goes := false }
def FnStringUint64ToldSaid : Prop := Claim7.holds Tryf.pinned (.plain (OpenSpec.ofChange fnStringUint64Spec)) fnStringUint64Card
/-- ITS FALSE NEIGHBOUR. Refute it at one input. -/
def FnStringUint64ToldWrongFalsely : Prop := Claim7.holds Tryf.pinned (.plain (OpenSpec.ofChange fnStringUint64Wrong)) fnStringUint64Card

/-- THE TOLD AND TIED CARD OF 'laws.FnStringJoined'. -/
def fnStringJoinedCard : Claim7 := { stood := { row := fnStringJoinedRow, standIns := [], harness := (true, "26a02684ddd6460339357efde55fc0281aba99bc5bf478659eaff723ca1d5faf"), looks := true }, told := true, laidByText := true, laidKinds := [.sentinel, .sentinel, .sentinel], laidTests := true, laidLooks := .later, goes := false }
def FnStringJoinedToldSaid : Prop := Claim7.holds Tryf.pinned (.plain (OpenSpec.ofChange fnStringJoinedSpec)) fnStringJoinedCard
/-- ITS FALSE NEIGHBOUR. Refute it at one input. -/
def FnStringJoinedToldWrongFalsely : Prop := Claim7.holds Tryf.pinned (.plain (OpenSpec.ofChange fnStringJoinedWrong)) fnStringJoinedCard

/-- THE TOLD AND TIED CARD OF 'laws.FnExactSetString'. -/
def fnExactSetStringCard : Claim7 := { stood := { row := fnExactSetStringRow, standIns := [], harness := (true, "26a02684ddd6460339357efde55fc0281aba99bc5bf478659eaff723ca1d5faf"), looks := true }, told := true, laidByText := true, laidKinds := [.sentinel, .sentinel, .sentinel], laidTests := true, laidLooks := .later, goes := false }
def FnExactSetStringToldSaid : Prop := Claim7.holds Tryf.pinned (.plain (OpenSpec.ofChange fnExactSetStringSpec)) fnExactSetStringCard
/-- ITS FALSE NEIGHBOUR. Refute it at one input. -/
def FnExactSetStringToldWrongFalsely : Prop := Claim7.holds Tryf.pinned (.plain (OpenSpec.ofChange fnExactSetStringWrong)) fnExactSetStringCard

/-- THE TOLD AND TIED CARD OF 'laws.FnExactSetStringSigned'. -/
def fnExactSetStringSignedCard : Claim7 := { stood := { row := fnExactSetStringSignedRow, standIns := [], harness := (true, "26a02684ddd6460339357efde55fc0281aba99bc5bf478659eaff723ca1d5faf"), looks := true }, told := true, laidByText := true, laidKinds := [.sentinel, .sentinel, .sentinel], laidTests := true, laidLooks := .later, goes := false }
def FnExactSetStringSignedToldSaid : Prop := Claim7.holds Tryf.pinned (.plain (OpenSpec.ofChange fnExactSetStringSignedSpec)) fnExactSetStringSignedCard
/-- ITS FALSE NEIGHBOUR. Refute it at one input. -/
def FnExactSetStringSignedToldWrongFalsely : Prop := Claim7.holds Tryf.pinned (.plain (OpenSpec.ofChange fnExactSetStringSignedWrong)) fnExactSetStringSignedCard

/-- THE TOLD AND TIED CARD OF 'laws.FnStringCase'. -/
def fnStringCaseCard : Claim7 := { stood := { row := fnStringCaseRow, standIns := [], harness := (true, "26a02684ddd6460339357efde55fc0281aba99bc5bf478659eaff723ca1d5faf"), looks := true }, told := true, laidByText := true, laidKinds := [.sentinel, .sentinel, .sentinel], laidTests := true, laidLooks := .later, goes := false }
def FnStringCaseToldSaid : Prop := Claim7.holds Tryf.pinned (.plain (OpenSpec.ofChange fnStringCaseSpec)) fnStringCaseCard
/-- ITS FALSE NEIGHBOUR. Refute it at one input. -/
def FnStringCaseToldWrongFalsely : Prop := Claim7.holds Tryf.pinned (.plain (OpenSpec.ofChange fnStringCaseWrong)) fnStringCaseCard

/-- THE TOLD AND TIED CARD OF 'laws.FnStringOctal'. -/
def fnStringOctalCard : Claim7 := { stood := { row := fnStringOctalRow, standIns := [], harness := (true, "26a02684ddd6460339357efde55fc0281aba99bc5bf478659eaff723ca1d5faf"), looks := true }, told := true, laidByText := true, laidKinds := [.sentinel, .sentinel, .sentinel], laidTests := true, laidLooks := .later, goes := false }
def FnStringOctalToldSaid : Prop := Claim7.holds Tryf.pinned (.plain (OpenSpec.ofChange fnStringOctalSpec)) fnStringOctalCard
/-- ITS FALSE NEIGHBOUR. Refute it at one input. -/
def FnStringOctalToldWrongFalsely : Prop := Claim7.holds Tryf.pinned (.plain (OpenSpec.ofChange fnStringOctalWrong)) fnStringOctalCard

/-- THE TOLD AND TIED CARD OF 'laws.FnStringPrefix'. -/
def fnStringPrefixCard : Claim7 := { stood := { row := fnStringPrefixRow, standIns := [], harness := (true, "26a02684ddd6460339357efde55fc0281aba99bc5bf478659eaff723ca1d5faf"), looks := true }, told := true, laidByText := true, laidKinds := [.sentinel, .sentinel, .sentinel], laidTests := true, laidLooks := .later, goes := false }
def FnStringPrefixToldSaid : Prop := Claim7.holds Tryf.pinned (.plain (OpenSpec.ofChange fnStringPrefixSpec)) fnStringPrefixCard
/-- ITS FALSE NEIGHBOUR. Refute it at one input. -/
def FnStringPrefixToldWrongFalsely : Prop := Claim7.holds Tryf.pinned (.plain (OpenSpec.ofChange fnStringPrefixWrong)) fnStringPrefixCard

/-- THE TOLD AND TIED CARD OF 'laws.FnStringUnder'. -/
def fnStringUnderCard : Claim7 := { stood := { row := fnStringUnderRow, standIns := [], harness := (true, "26a02684ddd6460339357efde55fc0281aba99bc5bf478659eaff723ca1d5faf"), looks := true }, told := true, laidByText := true, laidKinds := [.sentinel, .sentinel, .sentinel], laidTests := true, laidLooks := .later, goes := false }
def FnStringUnderToldSaid : Prop := Claim7.holds Tryf.pinned (.plain (OpenSpec.ofChange fnStringUnderSpec)) fnStringUnderCard
/-- ITS FALSE NEIGHBOUR. Refute it at one input. -/
def FnStringUnderToldWrongFalsely : Prop := Claim7.holds Tryf.pinned (.plain (OpenSpec.ofChange fnStringUnderWrong)) fnStringUnderCard

/-- THE TOLD AND TIED CARD OF 'laws.FnStringZeros'. -/
def fnStringZerosCard : Claim7 := { stood := { row := fnStringZerosRow, standIns := [], harness := (true, "26a02684ddd6460339357efde55fc0281aba99bc5bf478659eaff723ca1d5faf"), looks := true }, told := true, laidByText := true, laidKinds := [.sentinel, .sentinel, .sentinel], laidTests := true, laidLooks := .later, goes := false }
def FnStringZerosToldSaid : Prop := Claim7.holds Tryf.pinned (.plain (OpenSpec.ofChange fnStringZerosSpec)) fnStringZerosCard
/-- ITS FALSE NEIGHBOUR. Refute it at one input. -/
def FnStringZerosToldWrongFalsely : Prop := Claim7.holds Tryf.pinned (.plain (OpenSpec.ofChange fnStringZerosWrong)) fnStringZerosCard

/-- THE TOLD AND TIED CARD OF 'laws.FnStringSign'. -/
def fnStringSignCard : Claim7 := { stood := { row := fnStringSignRow, standIns := [], harness := (true, "26a02684ddd6460339357efde55fc0281aba99bc5bf478659eaff723ca1d5faf"), looks := true }, told := true, laidByText := true, laidKinds := [.sentinel, .sentinel, .sentinel], laidTests := true, laidLooks := .later, goes := false }
def FnStringSignToldSaid : Prop := Claim7.holds Tryf.pinned (.plain (OpenSpec.ofChange fnStringSignSpec)) fnStringSignCard
/-- ITS FALSE NEIGHBOUR. Refute it at one input. -/
def FnStringSignToldWrongFalsely : Prop := Claim7.holds Tryf.pinned (.plain (OpenSpec.ofChange fnStringSignWrong)) fnStringSignCard

/-- THE TOLD AND TIED CARD OF 'laws.FnStringBytes'. -/
def fnStringBytesCard : Claim7 := { stood := { row := fnStringBytesRow, standIns := [], harness := (true, "26a02684ddd6460339357efde55fc0281aba99bc5bf478659eaff723ca1d5faf"), looks := true }, told := true, laidByText := true, laidKinds := [.sentinel, .sentinel, .sentinel], laidTests := true, laidLooks := .later, goes := false }
def FnStringBytesToldSaid : Prop := Claim7.holds Tryf.pinned (.plain (OpenSpec.ofChange fnStringBytesSpec)) fnStringBytesCard
/-- ITS FALSE NEIGHBOUR. Refute it at one input. -/
def FnStringBytesToldWrongFalsely : Prop := Claim7.holds Tryf.pinned (.plain (OpenSpec.ofChange fnStringBytesWrong)) fnStringBytesCard

/-- THE TOLD AND TIED CARD OF 'laws.FnStringRound'. -/
def fnStringRoundCard : Claim7 := { stood := { row := fnStringRoundRow, standIns := [], harness := (true, "26a02684ddd6460339357efde55fc0281aba99bc5bf478659eaff723ca1d5faf"), looks := true }, told := true, laidByText := true, laidKinds := [.sentinel, .sentinel, .sentinel], laidTests := true, laidLooks := .later, goes := false }
def FnStringRoundToldSaid : Prop := Claim7.holds Tryf.pinned (.plain (OpenSpec.ofChange fnStringRoundSpec)) fnStringRoundCard
/-- ITS FALSE NEIGHBOUR. Refute it at one input. -/
def FnStringRoundToldWrongFalsely : Prop := Claim7.holds Tryf.pinned (.plain (OpenSpec.ofChange fnStringRoundWrong)) fnStringRoundCard
end Rows
end Go.Proofs.YtocadbghhoibnaaFmt
