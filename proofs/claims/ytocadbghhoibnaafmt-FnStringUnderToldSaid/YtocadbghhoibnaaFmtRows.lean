/-
  NARROWER THAN 'FOR EVERY INPUT', by the rows' own cells (each row's printed sentence says how): FnStringUint64: laid · FnStringJoined: laid · FnExactSetString: laid · FnExactSetStringSigned: laid · FnStringCase: laid · FnStringOctal: laid · FnStringPrefix: laid · FnStringUnder: laid · FnStringZeros: laid · FnStringSign: laid · FnStringBytes: laid · FnStringRound: laid.
  DERIVED. THE GIVEN ROWS OF THIS SEAT. 12 by the template 'for every input the law returns true; each argument reads behind the call as it read before'; 0 by the template 'total and deterministic' (their statements: YtocadbghhoibnaaFmtTotals.lean).
  GIVEN WITH THE SEED: the statements are not yours to turn. If you find one false, say at which input.
  Laid BY PROGRAM, IN A SANDBOX (cutbox-rows.mjs): the forced cells as the released guide's own fill.sh prints them over the translation ca4cd72701d11292… (all of the seat's roots in one cut). By AI agents, Wed Nov 11 2026. No macro, syntax, notation, axiom, sorry.
-/
import Derived.Test.YtocadbghhoibnaaFmtChecked
import GoSem.Claim
import GoSem.ClaimJoined
import GoSem.ClaimMapViews
import Derived.JoinedTies
import Derived.KernelRfl
namespace Go.Proofs.YtocadbghhoibnaaFmt
/- THE CELL 'sum', in the pinned program and in every row, IS THE sha256 OF THE DUMP (.gsa) THAT YtocadbghhoibnaaFmtProg.lean LOADS. Nothing in Lean hashes anything: it is a label: what it is worth is what the hold of that sum in a sandbox is worth. -/
noncomputable def Tryf.pinned : Pinned := { name := "ytocadbghhoibnaafmt", sum := "ca4cd72701d112926dab473b4f4e10fcd305c4aa5a091972ef263d24fd0cde2e", checked := Tryf.checked }
namespace Rows
def none {H : Type} : Left H := { results := [], args := [] }

/- WHAT THE LISTED PACKAGE-LEVEL VARIABLES READ AS WHEN THE CALL BEGINS. Each datum BY PROGRAM (the guide's laid-datum.mjs) off the statement by which the dump's own 'gosem.cut.vars' lays the variable. In a bare row this is a premise. The card (YtocadbghhoibnaaFmtCards.lean) ties it to the program's text. -/
def laid_io_EOF {H : Type} : DataW H := .iface "*errors.errorString" (.ptr (.agg [.lit (.string [69, 79, 70])]))
def laid_math_big_errNoDigits {H : Type} : DataW H := .iface "*errors.errorString" (.ptr (.agg [.lit (.string [110, 117, 109, 98, 101, 114, 32, 104, 97, 115, 32, 110, 111, 32, 100, 105, 103, 105, 116, 115])]))
def laid_math_big_errInvalSep {H : Type} : DataW H := .iface "*errors.errorString" (.ptr (.agg [.lit (.string [39, 95, 39, 32, 109, 117, 115, 116, 32, 115, 101, 112, 97, 114, 97, 116, 101, 32, 115, 117, 99, 99, 101, 115, 115, 105, 118, 101, 32, 100, 105, 103, 105, 116, 115])]))

/-- 'laws.FnStringUint64': WHATEVER THE INPUT: true; the input reads as it did. -/
def fnStringUint64Spec : ChangeSpec := { name := "fnStringUint64", fn := fun _ => fun
  | [d] => { results := [.lit (.bool true)], args := [d] }
  | _ => none }
def fnStringUint64Row : OpenClaim := { program := "ytocadbghhoibnaafmt", sum := "ca4cd72701d112926dab473b4f4e10fcd305c4aa5a091972ef263d24fd0cde2e", func := "loop.example/lib-g03408/laws.FnStringUint64", spec := "fnStringUint64", stops := ["fmt.Sprintf"], inPlace := ["fmt.Sprintf", "math/big.mulAddVWW", "math/bits.Add64", "math/big.rshVU"], unfollowed := true, recurses := true, named := ["io.EOF", "math/big.errInvalSep", "math/big.errNoDigits"], apart := false, laid := [("io.EOF", laid_io_EOF), ("math/big.errNoDigits", laid_math_big_errNoDigits), ("math/big.errInvalSep", laid_math_big_errInvalSep)] }
/-- NO THEOREM (fmt's text is open here; it may be false): for the released tool's asking of the row's closed facts alone. THE STATEMENT IS 'FnStringUint64ToldSaid' (YtocadbghhoibnaaFmtCards.lean). -/
def FnStringUint64FormAsk : Prop := fnStringUint64Row.holds Tryf.pinned (OpenSpec.ofChange fnStringUint64Spec)

/-- ITS FALSE NEIGHBOUR: 'it returns false'. Refute it at one input. -/
def fnStringUint64Wrong : ChangeSpec := { name := "fnStringUint64", fn := fun _ => fun
  | [d] => { results := [.lit (.bool false)], args := [d] }
  | _ => none }
def FnStringUint64WrongFormAsk : Prop := fnStringUint64Row.holds Tryf.pinned (OpenSpec.ofChange fnStringUint64Wrong)

/-- 'laws.FnStringJoined': WHATEVER THE INPUT: true; the input reads as it did. -/
def fnStringJoinedSpec : ChangeSpec := { name := "fnStringJoined", fn := fun _ => fun
  | [d1, d2, d3] => { results := [.lit (.bool true)], args := [d1, d2, d3] }
  | _ => none }
def fnStringJoinedRow : OpenClaim := { program := "ytocadbghhoibnaafmt", sum := "ca4cd72701d112926dab473b4f4e10fcd305c4aa5a091972ef263d24fd0cde2e", func := "loop.example/lib-g03408/laws.FnStringJoined", spec := "fnStringJoined", stops := ["fmt.Sprintf"], inPlace := ["fmt.Sprintf", "math/big.mulAddVWW", "math/bits.Add64", "math/big.rshVU", "math/big.lshVU", "math/big.addVV", "math/big.subVV", "math/bits.Sub64"], unfollowed := true, recurses := true, named := ["io.EOF", "math/big.errInvalSep", "math/big.errNoDigits"], apart := false, laid := [("io.EOF", laid_io_EOF), ("math/big.errNoDigits", laid_math_big_errNoDigits), ("math/big.errInvalSep", laid_math_big_errInvalSep)] }
/-- NO THEOREM (fmt's text is open here; it may be false): for the released tool's asking of the row's closed facts alone. THE STATEMENT IS 'FnStringJoinedToldSaid' (YtocadbghhoibnaaFmtCards.lean). -/
def FnStringJoinedFormAsk : Prop := fnStringJoinedRow.holds Tryf.pinned (OpenSpec.ofChange fnStringJoinedSpec)

/-- ITS FALSE NEIGHBOUR: 'it returns false'. Refute it at one input. -/
def fnStringJoinedWrong : ChangeSpec := { name := "fnStringJoined", fn := fun _ => fun
  | [d1, d2, d3] => { results := [.lit (.bool false)], args := [d1, d2, d3] }
  | _ => none }
def FnStringJoinedWrongFormAsk : Prop := fnStringJoinedRow.holds Tryf.pinned (OpenSpec.ofChange fnStringJoinedWrong)

/-- 'laws.FnExactSetString': WHATEVER THE INPUT: true; the input reads as it did. -/
def fnExactSetStringSpec : ChangeSpec := { name := "fnExactSetString", fn := fun _ => fun
  | [d1, d2] => { results := [.lit (.bool true)], args := [d1, d2] }
  | _ => none }
def fnExactSetStringRow : OpenClaim := { program := "ytocadbghhoibnaafmt", sum := "ca4cd72701d112926dab473b4f4e10fcd305c4aa5a091972ef263d24fd0cde2e", func := "loop.example/lib-g03408/laws.FnExactSetString", spec := "fnExactSetString", stops := ["fmt.Sprintf"], inPlace := ["fmt.Sprintf", "math/big.mulAddVWW", "math/bits.Add64", "math/big.rshVU"], unfollowed := true, recurses := true, named := ["io.EOF", "math/big.errInvalSep", "math/big.errNoDigits"], apart := false, laid := [("io.EOF", laid_io_EOF), ("math/big.errNoDigits", laid_math_big_errNoDigits), ("math/big.errInvalSep", laid_math_big_errInvalSep)] }
/-- NO THEOREM (fmt's text is open here; it may be false): for the released tool's asking of the row's closed facts alone. THE STATEMENT IS 'FnExactSetStringToldSaid' (YtocadbghhoibnaaFmtCards.lean). -/
def FnExactSetStringFormAsk : Prop := fnExactSetStringRow.holds Tryf.pinned (OpenSpec.ofChange fnExactSetStringSpec)

/-- ITS FALSE NEIGHBOUR: 'it returns false'. Refute it at one input. -/
def fnExactSetStringWrong : ChangeSpec := { name := "fnExactSetString", fn := fun _ => fun
  | [d1, d2] => { results := [.lit (.bool false)], args := [d1, d2] }
  | _ => none }
def FnExactSetStringWrongFormAsk : Prop := fnExactSetStringRow.holds Tryf.pinned (OpenSpec.ofChange fnExactSetStringWrong)

/-- 'laws.FnExactSetStringSigned': WHATEVER THE INPUT: true; the input reads as it did. -/
def fnExactSetStringSignedSpec : ChangeSpec := { name := "fnExactSetStringSigned", fn := fun _ => fun
  | [d1, d2] => { results := [.lit (.bool true)], args := [d1, d2] }
  | _ => none }
def fnExactSetStringSignedRow : OpenClaim := { program := "ytocadbghhoibnaafmt", sum := "ca4cd72701d112926dab473b4f4e10fcd305c4aa5a091972ef263d24fd0cde2e", func := "loop.example/lib-g03408/laws.FnExactSetStringSigned", spec := "fnExactSetStringSigned", stops := ["fmt.Sprintf"], inPlace := ["fmt.Sprintf", "math/big.mulAddVWW", "math/bits.Add64", "math/big.rshVU"], unfollowed := true, recurses := true, named := ["io.EOF", "math/big.errInvalSep", "math/big.errNoDigits"], apart := false, laid := [("io.EOF", laid_io_EOF), ("math/big.errNoDigits", laid_math_big_errNoDigits), ("math/big.errInvalSep", laid_math_big_errInvalSep)] }
/-- NO THEOREM (fmt's text is open here; it may be false): for the released tool's asking of the row's closed facts alone. THE STATEMENT IS 'FnExactSetStringSignedToldSaid' (YtocadbghhoibnaaFmtCards.lean). -/
def FnExactSetStringSignedFormAsk : Prop := fnExactSetStringSignedRow.holds Tryf.pinned (OpenSpec.ofChange fnExactSetStringSignedSpec)

/-- ITS FALSE NEIGHBOUR: 'it returns false'. Refute it at one input. -/
def fnExactSetStringSignedWrong : ChangeSpec := { name := "fnExactSetStringSigned", fn := fun _ => fun
  | [d1, d2] => { results := [.lit (.bool false)], args := [d1, d2] }
  | _ => none }
def FnExactSetStringSignedWrongFormAsk : Prop := fnExactSetStringSignedRow.holds Tryf.pinned (OpenSpec.ofChange fnExactSetStringSignedWrong)

/-- 'laws.FnStringCase': WHATEVER THE INPUT: true; the input reads as it did. -/
def fnStringCaseSpec : ChangeSpec := { name := "fnStringCase", fn := fun _ => fun
  | [d1, d2] => { results := [.lit (.bool true)], args := [d1, d2] }
  | _ => none }
def fnStringCaseRow : OpenClaim := { program := "ytocadbghhoibnaafmt", sum := "ca4cd72701d112926dab473b4f4e10fcd305c4aa5a091972ef263d24fd0cde2e", func := "loop.example/lib-g03408/laws.FnStringCase", spec := "fnStringCase", stops := ["fmt.Sprintf"], inPlace := ["fmt.Sprintf", "math/big.mulAddVWW", "math/bits.Add64", "math/big.rshVU"], unfollowed := true, recurses := true, named := ["io.EOF", "math/big.errInvalSep", "math/big.errNoDigits"], apart := false, laid := [("io.EOF", laid_io_EOF), ("math/big.errNoDigits", laid_math_big_errNoDigits), ("math/big.errInvalSep", laid_math_big_errInvalSep)] }
/-- NO THEOREM (fmt's text is open here; it may be false): for the released tool's asking of the row's closed facts alone. THE STATEMENT IS 'FnStringCaseToldSaid' (YtocadbghhoibnaaFmtCards.lean). -/
def FnStringCaseFormAsk : Prop := fnStringCaseRow.holds Tryf.pinned (OpenSpec.ofChange fnStringCaseSpec)

/-- ITS FALSE NEIGHBOUR: 'it returns false'. Refute it at one input. -/
def fnStringCaseWrong : ChangeSpec := { name := "fnStringCase", fn := fun _ => fun
  | [d1, d2] => { results := [.lit (.bool false)], args := [d1, d2] }
  | _ => none }
def FnStringCaseWrongFormAsk : Prop := fnStringCaseRow.holds Tryf.pinned (OpenSpec.ofChange fnStringCaseWrong)

/-- 'laws.FnStringOctal': WHATEVER THE INPUT: true; the input reads as it did. -/
def fnStringOctalSpec : ChangeSpec := { name := "fnStringOctal", fn := fun _ => fun
  | [d] => { results := [.lit (.bool true)], args := [d] }
  | _ => none }
def fnStringOctalRow : OpenClaim := { program := "ytocadbghhoibnaafmt", sum := "ca4cd72701d112926dab473b4f4e10fcd305c4aa5a091972ef263d24fd0cde2e", func := "loop.example/lib-g03408/laws.FnStringOctal", spec := "fnStringOctal", stops := ["fmt.Sprintf"], inPlace := ["fmt.Sprintf", "math/big.mulAddVWW", "math/bits.Add64", "math/big.rshVU"], unfollowed := true, recurses := true, named := ["io.EOF", "math/big.errInvalSep", "math/big.errNoDigits"], apart := false, laid := [("io.EOF", laid_io_EOF), ("math/big.errNoDigits", laid_math_big_errNoDigits), ("math/big.errInvalSep", laid_math_big_errInvalSep)] }
/-- NO THEOREM (fmt's text is open here; it may be false): for the released tool's asking of the row's closed facts alone. THE STATEMENT IS 'FnStringOctalToldSaid' (YtocadbghhoibnaaFmtCards.lean). -/
def FnStringOctalFormAsk : Prop := fnStringOctalRow.holds Tryf.pinned (OpenSpec.ofChange fnStringOctalSpec)

/-- ITS FALSE NEIGHBOUR: 'it returns false'. Refute it at one input. -/
def fnStringOctalWrong : ChangeSpec := { name := "fnStringOctal", fn := fun _ => fun
  | [d] => { results := [.lit (.bool false)], args := [d] }
  | _ => none }
def FnStringOctalWrongFormAsk : Prop := fnStringOctalRow.holds Tryf.pinned (OpenSpec.ofChange fnStringOctalWrong)

/-- 'laws.FnStringPrefix': WHATEVER THE INPUT: true; the input reads as it did. -/
def fnStringPrefixSpec : ChangeSpec := { name := "fnStringPrefix", fn := fun _ => fun
  | [d1, d2] => { results := [.lit (.bool true)], args := [d1, d2] }
  | _ => none }
def fnStringPrefixRow : OpenClaim := { program := "ytocadbghhoibnaafmt", sum := "ca4cd72701d112926dab473b4f4e10fcd305c4aa5a091972ef263d24fd0cde2e", func := "loop.example/lib-g03408/laws.FnStringPrefix", spec := "fnStringPrefix", stops := ["fmt.Sprintf"], inPlace := ["fmt.Sprintf", "math/big.mulAddVWW", "math/bits.Add64", "math/big.rshVU"], unfollowed := true, recurses := true, named := ["io.EOF", "math/big.errInvalSep", "math/big.errNoDigits"], apart := false, laid := [("io.EOF", laid_io_EOF), ("math/big.errNoDigits", laid_math_big_errNoDigits), ("math/big.errInvalSep", laid_math_big_errInvalSep)] }
/-- NO THEOREM (fmt's text is open here; it may be false): for the released tool's asking of the row's closed facts alone. THE STATEMENT IS 'FnStringPrefixToldSaid' (YtocadbghhoibnaaFmtCards.lean). -/
def FnStringPrefixFormAsk : Prop := fnStringPrefixRow.holds Tryf.pinned (OpenSpec.ofChange fnStringPrefixSpec)

/-- ITS FALSE NEIGHBOUR: 'it returns false'. Refute it at one input. -/
def fnStringPrefixWrong : ChangeSpec := { name := "fnStringPrefix", fn := fun _ => fun
  | [d1, d2] => { results := [.lit (.bool false)], args := [d1, d2] }
  | _ => none }
def FnStringPrefixWrongFormAsk : Prop := fnStringPrefixRow.holds Tryf.pinned (OpenSpec.ofChange fnStringPrefixWrong)

/-- 'laws.FnStringUnder': WHATEVER THE INPUT: true; the input reads as it did. -/
def fnStringUnderSpec : ChangeSpec := { name := "fnStringUnder", fn := fun _ => fun
  | [d1, d2] => { results := [.lit (.bool true)], args := [d1, d2] }
  | _ => none }
def fnStringUnderRow : OpenClaim := { program := "ytocadbghhoibnaafmt", sum := "ca4cd72701d112926dab473b4f4e10fcd305c4aa5a091972ef263d24fd0cde2e", func := "loop.example/lib-g03408/laws.FnStringUnder", spec := "fnStringUnder", stops := ["fmt.Sprintf"], inPlace := ["fmt.Sprintf", "math/big.mulAddVWW", "math/bits.Add64", "math/big.rshVU"], unfollowed := true, recurses := true, named := ["io.EOF", "math/big.errInvalSep", "math/big.errNoDigits"], apart := false, laid := [("io.EOF", laid_io_EOF), ("math/big.errNoDigits", laid_math_big_errNoDigits), ("math/big.errInvalSep", laid_math_big_errInvalSep)] }
/-- NO THEOREM (fmt's text is open here; it may be false): for the released tool's asking of the row's closed facts alone. THE STATEMENT IS 'FnStringUnderToldSaid' (YtocadbghhoibnaaFmtCards.lean). -/
def FnStringUnderFormAsk : Prop := fnStringUnderRow.holds Tryf.pinned (OpenSpec.ofChange fnStringUnderSpec)

/-- ITS FALSE NEIGHBOUR: 'it returns false'. Refute it at one input. -/
def fnStringUnderWrong : ChangeSpec := { name := "fnStringUnder", fn := fun _ => fun
  | [d1, d2] => { results := [.lit (.bool false)], args := [d1, d2] }
  | _ => none }
def FnStringUnderWrongFormAsk : Prop := fnStringUnderRow.holds Tryf.pinned (OpenSpec.ofChange fnStringUnderWrong)

/-- 'laws.FnStringZeros': WHATEVER THE INPUT: true; the input reads as it did. -/
def fnStringZerosSpec : ChangeSpec := { name := "fnStringZeros", fn := fun _ => fun
  | [d1, d2, d3] => { results := [.lit (.bool true)], args := [d1, d2, d3] }
  | _ => none }
def fnStringZerosRow : OpenClaim := { program := "ytocadbghhoibnaafmt", sum := "ca4cd72701d112926dab473b4f4e10fcd305c4aa5a091972ef263d24fd0cde2e", func := "loop.example/lib-g03408/laws.FnStringZeros", spec := "fnStringZeros", stops := ["fmt.Sprintf"], inPlace := ["fmt.Sprintf", "math/big.mulAddVWW", "math/bits.Add64", "math/big.rshVU"], unfollowed := true, recurses := true, named := ["io.EOF", "math/big.errInvalSep", "math/big.errNoDigits"], apart := false, laid := [("io.EOF", laid_io_EOF), ("math/big.errNoDigits", laid_math_big_errNoDigits), ("math/big.errInvalSep", laid_math_big_errInvalSep)] }
/-- NO THEOREM (fmt's text is open here; it may be false): for the released tool's asking of the row's closed facts alone. THE STATEMENT IS 'FnStringZerosToldSaid' (YtocadbghhoibnaaFmtCards.lean). -/
def FnStringZerosFormAsk : Prop := fnStringZerosRow.holds Tryf.pinned (OpenSpec.ofChange fnStringZerosSpec)

/-- ITS FALSE NEIGHBOUR: 'it returns false'. Refute it at one input. -/
def fnStringZerosWrong : ChangeSpec := { name := "fnStringZeros", fn := fun _ => fun
  | [d1, d2, d3] => { results := [.lit (.bool false)], args := [d1, d2, d3] }
  | _ => none }
def FnStringZerosWrongFormAsk : Prop := fnStringZerosRow.holds Tryf.pinned (OpenSpec.ofChange fnStringZerosWrong)

/-- 'laws.FnStringSign': WHATEVER THE INPUT: true; the input reads as it did. -/
def fnStringSignSpec : ChangeSpec := { name := "fnStringSign", fn := fun _ => fun
  | [d1, d2] => { results := [.lit (.bool true)], args := [d1, d2] }
  | _ => none }
def fnStringSignRow : OpenClaim := { program := "ytocadbghhoibnaafmt", sum := "ca4cd72701d112926dab473b4f4e10fcd305c4aa5a091972ef263d24fd0cde2e", func := "loop.example/lib-g03408/laws.FnStringSign", spec := "fnStringSign", stops := ["fmt.Sprintf"], inPlace := ["fmt.Sprintf", "math/big.mulAddVWW", "math/bits.Add64", "math/big.rshVU"], unfollowed := true, recurses := true, named := ["io.EOF", "math/big.errInvalSep", "math/big.errNoDigits"], apart := false, laid := [("io.EOF", laid_io_EOF), ("math/big.errNoDigits", laid_math_big_errNoDigits), ("math/big.errInvalSep", laid_math_big_errInvalSep)] }
/-- NO THEOREM (fmt's text is open here; it may be false): for the released tool's asking of the row's closed facts alone. THE STATEMENT IS 'FnStringSignToldSaid' (YtocadbghhoibnaaFmtCards.lean). -/
def FnStringSignFormAsk : Prop := fnStringSignRow.holds Tryf.pinned (OpenSpec.ofChange fnStringSignSpec)

/-- ITS FALSE NEIGHBOUR: 'it returns false'. Refute it at one input. -/
def fnStringSignWrong : ChangeSpec := { name := "fnStringSign", fn := fun _ => fun
  | [d1, d2] => { results := [.lit (.bool false)], args := [d1, d2] }
  | _ => none }
def FnStringSignWrongFormAsk : Prop := fnStringSignRow.holds Tryf.pinned (OpenSpec.ofChange fnStringSignWrong)

/-- 'laws.FnStringBytes': WHATEVER THE INPUT: true; the input reads as it did. -/
def fnStringBytesSpec : ChangeSpec := { name := "fnStringBytes", fn := fun _ => fun
  | [d] => { results := [.lit (.bool true)], args := [d] }
  | _ => none }
def fnStringBytesRow : OpenClaim := { program := "ytocadbghhoibnaafmt", sum := "ca4cd72701d112926dab473b4f4e10fcd305c4aa5a091972ef263d24fd0cde2e", func := "loop.example/lib-g03408/laws.FnStringBytes", spec := "fnStringBytes", stops := ["fmt.Sprintf"], inPlace := ["fmt.Sprintf", "math/big.mulAddVWW", "math/bits.Add64", "math/big.rshVU"], unfollowed := true, recurses := true, named := ["io.EOF", "math/big.errInvalSep", "math/big.errNoDigits"], apart := false, laid := [("io.EOF", laid_io_EOF), ("math/big.errNoDigits", laid_math_big_errNoDigits), ("math/big.errInvalSep", laid_math_big_errInvalSep)] }
/-- NO THEOREM (fmt's text is open here; it may be false): for the released tool's asking of the row's closed facts alone. THE STATEMENT IS 'FnStringBytesToldSaid' (YtocadbghhoibnaaFmtCards.lean). -/
def FnStringBytesFormAsk : Prop := fnStringBytesRow.holds Tryf.pinned (OpenSpec.ofChange fnStringBytesSpec)

/-- ITS FALSE NEIGHBOUR: 'it returns false'. Refute it at one input. -/
def fnStringBytesWrong : ChangeSpec := { name := "fnStringBytes", fn := fun _ => fun
  | [d] => { results := [.lit (.bool false)], args := [d] }
  | _ => none }
def FnStringBytesWrongFormAsk : Prop := fnStringBytesRow.holds Tryf.pinned (OpenSpec.ofChange fnStringBytesWrong)

/-- 'laws.FnStringRound': WHATEVER THE INPUT: true; the input reads as it did. -/
def fnStringRoundSpec : ChangeSpec := { name := "fnStringRound", fn := fun _ => fun
  | [d1, d2] => { results := [.lit (.bool true)], args := [d1, d2] }
  | _ => none }
def fnStringRoundRow : OpenClaim := { program := "ytocadbghhoibnaafmt", sum := "ca4cd72701d112926dab473b4f4e10fcd305c4aa5a091972ef263d24fd0cde2e", func := "loop.example/lib-g03408/laws.FnStringRound", spec := "fnStringRound", stops := ["fmt.Sprintf"], inPlace := ["fmt.Sprintf", "math/big.mulAddVWW", "math/bits.Add64", "math/big.rshVU"], unfollowed := true, recurses := true, named := ["io.EOF", "math/big.errInvalSep", "math/big.errNoDigits"], apart := false, laid := [("io.EOF", laid_io_EOF), ("math/big.errNoDigits", laid_math_big_errNoDigits), ("math/big.errInvalSep", laid_math_big_errInvalSep)] }
/-- NO THEOREM (fmt's text is open here; it may be false): for the released tool's asking of the row's closed facts alone. THE STATEMENT IS 'FnStringRoundToldSaid' (YtocadbghhoibnaaFmtCards.lean). -/
def FnStringRoundFormAsk : Prop := fnStringRoundRow.holds Tryf.pinned (OpenSpec.ofChange fnStringRoundSpec)

/-- ITS FALSE NEIGHBOUR: 'it returns false'. Refute it at one input. -/
def fnStringRoundWrong : ChangeSpec := { name := "fnStringRound", fn := fun _ => fun
  | [d1, d2] => { results := [.lit (.bool false)], args := [d1, d2] }
  | _ => none }
def FnStringRoundWrongFormAsk : Prop := fnStringRoundRow.holds Tryf.pinned (OpenSpec.ofChange fnStringRoundWrong)

end Rows
end Go.Proofs.YtocadbghhoibnaaFmt
