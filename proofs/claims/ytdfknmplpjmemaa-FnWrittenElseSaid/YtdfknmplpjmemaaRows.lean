/-
  No cell of these rows narrows 'for every input' (looked for: loops, veiled, ifaces, maps, wideKeys, modest, calm, conditions, laid).
  DERIVED. THE GIVEN ROWS OF THIS SEAT. 6 by the template 'for every input the law returns true; each argument reads behind the call as it read before'; 0 by the template 'total and deterministic' (their statements: YtdfknmplpjmemaaTotals.lean).
  GIVEN WITH THE SEED: the statements are not yours to turn. If you find one false, say at which input.
  Laid BY PROGRAM, IN A SANDBOX (cutbox-rows.mjs): the forced cells as the released guide's own fill.sh prints them over the translation 76b4082b8c306e3d… (all of the seat's roots in one cut). By AI agents, Wed Nov 11 2026. No macro, syntax, notation, axiom, sorry.
-/
import Derived.Test.YtdfknmplpjmemaaChecked
import GoSem.Claim
import GoSem.ClaimJoined
import GoSem.ClaimMapViews
import Derived.JoinedTies
import Derived.KernelRfl
namespace Go.Proofs.Ytdfknmplpjmemaa
/- THE CELL 'sum', in the pinned program and in every row, IS THE sha256 OF THE DUMP (.gsa) THAT YtdfknmplpjmemaaProg.lean LOADS. Nothing in Lean hashes anything: it is a label: what it is worth is what the hold of that sum in a sandbox is worth. -/
noncomputable def Try.pinned : Pinned := { name := "ytdfknmplpjmemaa", sum := "76b4082b8c306e3d8e2f84b37ac6a786e1a3499a4a3832cee2e4cffae50065be", checked := Try.checked }
namespace Rows
def none {H : Type} : Left H := { results := [], args := [] }

/-- 'laws.FnWrittenElse': WHATEVER THE INPUT: true; the input reads as it did. -/
def fnWrittenElseSpec : ChangeSpec := { name := "fnWrittenElse", fn := fun _ => fun
  | [d1, d2] => { results := [.lit (.bool true)], args := [d1, d2] }
  | _ => none }
def fnWrittenElseRow : OpenClaim := { program := "ytdfknmplpjmemaa", sum := "76b4082b8c306e3d8e2f84b37ac6a786e1a3499a4a3832cee2e4cffae50065be", func := "loop.example/lib-g03408/laws.FnWrittenElse", spec := "fnWrittenElse", inPlace := ["math/big.addVV", "math/bits.Add64", "math/big.subVV", "math/bits.Sub64", "math/big.lshVU"], recurses := true, apart := false }
def FnWrittenElseSaid : Prop := fnWrittenElseRow.holds Try.pinned (OpenSpec.ofChange fnWrittenElseSpec)

/-- ITS FALSE NEIGHBOUR: 'it returns false'. Refute it at one input. -/
def fnWrittenElseWrong : ChangeSpec := { name := "fnWrittenElse", fn := fun _ => fun
  | [d1, d2] => { results := [.lit (.bool false)], args := [d1, d2] }
  | _ => none }
def FnWrittenElseWrongFalsely : Prop := fnWrittenElseRow.holds Try.pinned (OpenSpec.ofChange fnWrittenElseWrong)

/-- 'laws.FnUint64Sum': WHATEVER THE INPUT: true; the input reads as it did. -/
def fnUint64SumSpec : ChangeSpec := { name := "fnUint64Sum", fn := fun _ => fun
  | [d1, d2] => { results := [.lit (.bool true)], args := [d1, d2] }
  | _ => none }
def fnUint64SumRow : OpenClaim := { program := "ytdfknmplpjmemaa", sum := "76b4082b8c306e3d8e2f84b37ac6a786e1a3499a4a3832cee2e4cffae50065be", func := "loop.example/lib-g03408/laws.FnUint64Sum", spec := "fnUint64Sum", inPlace := ["math/big.addVV", "math/bits.Add64", "math/big.subVV", "math/bits.Sub64"], recurses := true, apart := false }
def FnUint64SumSaid : Prop := fnUint64SumRow.holds Try.pinned (OpenSpec.ofChange fnUint64SumSpec)

/-- ITS FALSE NEIGHBOUR: 'it returns false'. Refute it at one input. -/
def fnUint64SumWrong : ChangeSpec := { name := "fnUint64Sum", fn := fun _ => fun
  | [d1, d2] => { results := [.lit (.bool false)], args := [d1, d2] }
  | _ => none }
def FnUint64SumWrongFalsely : Prop := fnUint64SumRow.holds Try.pinned (OpenSpec.ofChange fnUint64SumWrong)

/-- 'laws.FnLshDoubles': WHATEVER THE INPUT: true; the input reads as it did. -/
def fnLshDoublesSpec : ChangeSpec := { name := "fnLshDoubles", fn := fun _ => fun
  | [d1, d2] => { results := [.lit (.bool true)], args := [d1, d2] }
  | _ => none }
def fnLshDoublesRow : OpenClaim := { program := "ytdfknmplpjmemaa", sum := "76b4082b8c306e3d8e2f84b37ac6a786e1a3499a4a3832cee2e4cffae50065be", func := "loop.example/lib-g03408/laws.FnLshDoubles", spec := "fnLshDoubles", inPlace := ["math/big.lshVU", "math/big.addVV", "math/bits.Add64", "math/big.subVV", "math/bits.Sub64"], recurses := true, apart := false }
def FnLshDoublesSaid : Prop := fnLshDoublesRow.holds Try.pinned (OpenSpec.ofChange fnLshDoublesSpec)

/-- ITS FALSE NEIGHBOUR: 'it returns false'. Refute it at one input. -/
def fnLshDoublesWrong : ChangeSpec := { name := "fnLshDoubles", fn := fun _ => fun
  | [d1, d2] => { results := [.lit (.bool false)], args := [d1, d2] }
  | _ => none }
def FnLshDoublesWrongFalsely : Prop := fnLshDoublesRow.holds Try.pinned (OpenSpec.ofChange fnLshDoublesWrong)

/-- 'laws.FnShiftSums': WHATEVER THE INPUT: true; the input reads as it did. -/
def fnShiftSumsSpec : ChangeSpec := { name := "fnShiftSums", fn := fun _ => fun
  | [d1, d2, d3] => { results := [.lit (.bool true)], args := [d1, d2, d3] }
  | _ => none }
def fnShiftSumsRow : OpenClaim := { program := "ytdfknmplpjmemaa", sum := "76b4082b8c306e3d8e2f84b37ac6a786e1a3499a4a3832cee2e4cffae50065be", func := "loop.example/lib-g03408/laws.FnShiftSums", spec := "fnShiftSums", inPlace := ["math/big.addVV", "math/bits.Add64", "math/big.subVV", "math/bits.Sub64", "math/big.lshVU"], recurses := true, apart := false }
def FnShiftSumsSaid : Prop := fnShiftSumsRow.holds Try.pinned (OpenSpec.ofChange fnShiftSumsSpec)

/-- ITS FALSE NEIGHBOUR: 'it returns false'. Refute it at one input. -/
def fnShiftSumsWrong : ChangeSpec := { name := "fnShiftSums", fn := fun _ => fun
  | [d1, d2, d3] => { results := [.lit (.bool false)], args := [d1, d2, d3] }
  | _ => none }
def FnShiftSumsWrongFalsely : Prop := fnShiftSumsRow.holds Try.pinned (OpenSpec.ofChange fnShiftSumsWrong)

/-- 'laws.FnBitLenSum': WHATEVER THE INPUT: true; the input reads as it did. -/
def fnBitLenSumSpec : ChangeSpec := { name := "fnBitLenSum", fn := fun _ => fun
  | [d1, d2] => { results := [.lit (.bool true)], args := [d1, d2] }
  | _ => none }
def fnBitLenSumRow : OpenClaim := { program := "ytdfknmplpjmemaa", sum := "76b4082b8c306e3d8e2f84b37ac6a786e1a3499a4a3832cee2e4cffae50065be", func := "loop.example/lib-g03408/laws.FnBitLenSum", spec := "fnBitLenSum", inPlace := ["math/big.addVV", "math/bits.Add64", "math/big.subVV", "math/bits.Sub64"], recurses := true, apart := false }
def FnBitLenSumSaid : Prop := fnBitLenSumRow.holds Try.pinned (OpenSpec.ofChange fnBitLenSumSpec)

/-- ITS FALSE NEIGHBOUR: 'it returns false'. Refute it at one input. -/
def fnBitLenSumWrong : ChangeSpec := { name := "fnBitLenSum", fn := fun _ => fun
  | [d1, d2] => { results := [.lit (.bool false)], args := [d1, d2] }
  | _ => none }
def FnBitLenSumWrongFalsely : Prop := fnBitLenSumRow.holds Try.pinned (OpenSpec.ofChange fnBitLenSumWrong)

/-- 'laws.FnTidyWords': WHATEVER THE INPUT: true; the input reads as it did. -/
def fnTidyWordsSpec : ChangeSpec := { name := "fnTidyWords", fn := fun _ => fun
  | [d1, d2] => { results := [.lit (.bool true)], args := [d1, d2] }
  | _ => none }
def fnTidyWordsRow : OpenClaim := { program := "ytdfknmplpjmemaa", sum := "76b4082b8c306e3d8e2f84b37ac6a786e1a3499a4a3832cee2e4cffae50065be", func := "loop.example/lib-g03408/laws.FnTidyWords", spec := "fnTidyWords", inPlace := ["math/big.addVV", "math/bits.Add64", "math/big.subVV", "math/bits.Sub64", "math/big.lshVU"], recurses := true, apart := false }
def FnTidyWordsSaid : Prop := fnTidyWordsRow.holds Try.pinned (OpenSpec.ofChange fnTidyWordsSpec)

/-- ITS FALSE NEIGHBOUR: 'it returns false'. Refute it at one input. -/
def fnTidyWordsWrong : ChangeSpec := { name := "fnTidyWords", fn := fun _ => fun
  | [d1, d2] => { results := [.lit (.bool false)], args := [d1, d2] }
  | _ => none }
def FnTidyWordsWrongFalsely : Prop := fnTidyWordsRow.holds Try.pinned (OpenSpec.ofChange fnTidyWordsWrong)

/- THE SECOND FORM. 'bulk': how many values and letters a reading holds, each counted each time it is reached (what is shared counts as often as it is met; a slice's spare places count too). A statement '..UptoSaid' is the law's where the arguments, and the package variables that the reading takes, are together of bulk at most 1048576: NARROWER than '..Said'. Prove '..Said' where nothing that the law and all that it calls make is longer than what came in: it says more and counts as full. Else prove '..UptoSaid'. A law counts once. -/
mutual
def uptoBulk {H : Type} : DataW H → Nat
  | .lit (.string bytes) => bytes.length + 1
  | .lit _ => 1
  | .nil => 1
  | .ptr d => uptoBulk d + 1
  | .slice elems spare => uptoBulkAll elems + uptoBulkAll spare + 1
  | .agg parts => uptoBulkAll parts + 1
  | .iface _ d => uptoBulk d + 1
  | .map entries => uptoBulkEntries entries + 1
  | .held _ => 1
def uptoBulkAll {H : Type} : List (DataW H) → Nat
  | [] => 0
  | d :: r => uptoBulk d + uptoBulkAll r
def uptoBulkEntries {H : Type} : List (Lit × DataW H) → Nat
  | [] => 0
  | x :: r => uptoBulkEntry x + uptoBulkEntries r
def uptoBulkEntry {H : Type} : Lit × DataW H → Nat
  | (.string bytes, d) => bytes.length + uptoBulk d + 1
  | (_, d) => uptoBulk d + 1
 end
def uptoSmall : (H : Type) → List (DataW H) → Bool := fun _ ds => decide (uptoBulkAll ds ≤ 1048576)
def OpenSpec.upto (s : _root_.Go.ChangeSpec) : _root_.Go.OpenSpec := { _root_.Go.OpenSpec.ofChange s with cond := some uptoSmall }

/-- 'laws.FnWrittenElse', WHERE WHAT IT READS IS OF BULK AT MOST 1048576: true; the input reads as it did. -/
def fnWrittenElseUptoRow : OpenClaim := { program := "ytdfknmplpjmemaa", sum := "76b4082b8c306e3d8e2f84b37ac6a786e1a3499a4a3832cee2e4cffae50065be", func := "loop.example/lib-g03408/laws.FnWrittenElse", spec := "fnWrittenElse", inPlace := ["math/big.addVV", "math/bits.Add64", "math/big.subVV", "math/bits.Sub64", "math/big.lshVU"], recurses := true, apart := false, narrowed := true }
def FnWrittenElseUptoSaid : Prop := fnWrittenElseUptoRow.holds Try.pinned (OpenSpec.upto fnWrittenElseSpec)

/-- 'laws.FnUint64Sum', WHERE WHAT IT READS IS OF BULK AT MOST 1048576: true; the input reads as it did. -/
def fnUint64SumUptoRow : OpenClaim := { program := "ytdfknmplpjmemaa", sum := "76b4082b8c306e3d8e2f84b37ac6a786e1a3499a4a3832cee2e4cffae50065be", func := "loop.example/lib-g03408/laws.FnUint64Sum", spec := "fnUint64Sum", inPlace := ["math/big.addVV", "math/bits.Add64", "math/big.subVV", "math/bits.Sub64"], recurses := true, apart := false, narrowed := true }
def FnUint64SumUptoSaid : Prop := fnUint64SumUptoRow.holds Try.pinned (OpenSpec.upto fnUint64SumSpec)

/-- 'laws.FnLshDoubles', WHERE WHAT IT READS IS OF BULK AT MOST 1048576: true; the input reads as it did. -/
def fnLshDoublesUptoRow : OpenClaim := { program := "ytdfknmplpjmemaa", sum := "76b4082b8c306e3d8e2f84b37ac6a786e1a3499a4a3832cee2e4cffae50065be", func := "loop.example/lib-g03408/laws.FnLshDoubles", spec := "fnLshDoubles", inPlace := ["math/big.lshVU", "math/big.addVV", "math/bits.Add64", "math/big.subVV", "math/bits.Sub64"], recurses := true, apart := false, narrowed := true }
def FnLshDoublesUptoSaid : Prop := fnLshDoublesUptoRow.holds Try.pinned (OpenSpec.upto fnLshDoublesSpec)

/-- 'laws.FnShiftSums', WHERE WHAT IT READS IS OF BULK AT MOST 1048576: true; the input reads as it did. -/
def fnShiftSumsUptoRow : OpenClaim := { program := "ytdfknmplpjmemaa", sum := "76b4082b8c306e3d8e2f84b37ac6a786e1a3499a4a3832cee2e4cffae50065be", func := "loop.example/lib-g03408/laws.FnShiftSums", spec := "fnShiftSums", inPlace := ["math/big.addVV", "math/bits.Add64", "math/big.subVV", "math/bits.Sub64", "math/big.lshVU"], recurses := true, apart := false, narrowed := true }
def FnShiftSumsUptoSaid : Prop := fnShiftSumsUptoRow.holds Try.pinned (OpenSpec.upto fnShiftSumsSpec)

/-- 'laws.FnBitLenSum', WHERE WHAT IT READS IS OF BULK AT MOST 1048576: true; the input reads as it did. -/
def fnBitLenSumUptoRow : OpenClaim := { program := "ytdfknmplpjmemaa", sum := "76b4082b8c306e3d8e2f84b37ac6a786e1a3499a4a3832cee2e4cffae50065be", func := "loop.example/lib-g03408/laws.FnBitLenSum", spec := "fnBitLenSum", inPlace := ["math/big.addVV", "math/bits.Add64", "math/big.subVV", "math/bits.Sub64"], recurses := true, apart := false, narrowed := true }
def FnBitLenSumUptoSaid : Prop := fnBitLenSumUptoRow.holds Try.pinned (OpenSpec.upto fnBitLenSumSpec)

/-- 'laws.FnTidyWords', WHERE WHAT IT READS IS OF BULK AT MOST 1048576: true; the input reads as it did. -/
def fnTidyWordsUptoRow : OpenClaim := { program := "ytdfknmplpjmemaa", sum := "76b4082b8c306e3d8e2f84b37ac6a786e1a3499a4a3832cee2e4cffae50065be", func := "loop.example/lib-g03408/laws.FnTidyWords", spec := "fnTidyWords", inPlace := ["math/big.addVV", "math/bits.Add64", "math/big.subVV", "math/bits.Sub64", "math/big.lshVU"], recurses := true, apart := false, narrowed := true }
def FnTidyWordsUptoSaid : Prop := fnTidyWordsUptoRow.holds Try.pinned (OpenSpec.upto fnTidyWordsSpec)

end Rows
end Go.Proofs.Ytdfknmplpjmemaa
