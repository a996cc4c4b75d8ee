/-
  No cell of these rows narrows 'for every input' (looked for: loops, veiled, ifaces, maps, wideKeys, modest, calm, conditions, laid).
  DERIVED. THE GIVEN ROWS OF THIS SEAT. 7 by the template 'for every input the law returns true; each argument reads behind the call as it read before'; 0 by the template 'total and deterministic' (their statements: YtfpkaamldifkbaaTotals.lean).
  GIVEN WITH THE SEED: the statements are not yours to turn. If you find one false, say at which input.
  Laid BY PROGRAM, IN A SANDBOX (cutbox-rows.mjs): the forced cells as the released guide's own fill.sh prints them over the translation a78b7282466dce66… (all of the seat's roots in one cut). By AI agents, Wed Nov 11 2026. No macro, syntax, notation, axiom, sorry.
-/
import Derived.Test.YtfpkaamldifkbaaChecked
import GoSem.Claim
import GoSem.ClaimJoined
import GoSem.ClaimMapViews
import Derived.JoinedTies
import Derived.KernelRfl
namespace Go.Proofs.Ytfpkaamldifkbaa
/- THE CELL 'sum', in the pinned program and in every row, IS THE sha256 OF THE DUMP (.gsa) THAT YtfpkaamldifkbaaProg.lean LOADS. Nothing in Lean hashes anything: it is a label: what it is worth is what the hold of that sum in a sandbox is worth. -/
noncomputable def Try.pinned : Pinned := { name := "ytfpkaamldifkbaa", sum := "a78b7282466dce6619e186f53fd569ad28a40913dc22b2debf373f38c7e95455", checked := Try.checked }
namespace Rows
def none {H : Type} : Left H := { results := [], args := [] }

/-- 'laws.FnExactBytesFew': WHATEVER THE INPUT: true; the input reads as it did. -/
def fnExactBytesFewSpec : ChangeSpec := { name := "fnExactBytesFew", fn := fun _ => fun
  | [d] => { results := [.lit (.bool true)], args := [d] }
  | _ => none }
def fnExactBytesFewRow : OpenClaim := { program := "ytfpkaamldifkbaa", sum := "a78b7282466dce6619e186f53fd569ad28a40913dc22b2debf373f38c7e95455", func := "loop.example/lib-g03408/laws.FnExactBytesFew", spec := "fnExactBytesFew", apart := false }
def FnExactBytesFewSaid : Prop := fnExactBytesFewRow.holds Try.pinned (OpenSpec.ofChange fnExactBytesFewSpec)

/-- ITS FALSE NEIGHBOUR: 'it returns false'. Refute it at one input. -/
def fnExactBytesFewWrong : ChangeSpec := { name := "fnExactBytesFew", fn := fun _ => fun
  | [d] => { results := [.lit (.bool false)], args := [d] }
  | _ => none }
def FnExactBytesFewWrongFalsely : Prop := fnExactBytesFewRow.holds Try.pinned (OpenSpec.ofChange fnExactBytesFewWrong)

/-- 'laws.FnExactFillBytes': WHATEVER THE INPUT: true; the input reads as it did. -/
def fnExactFillBytesSpec : ChangeSpec := { name := "fnExactFillBytes", fn := fun _ => fun
  | [d1, d2] => { results := [.lit (.bool true)], args := [d1, d2] }
  | _ => none }
def fnExactFillBytesRow : OpenClaim := { program := "ytfpkaamldifkbaa", sum := "a78b7282466dce6619e186f53fd569ad28a40913dc22b2debf373f38c7e95455", func := "loop.example/lib-g03408/laws.FnExactFillBytes", spec := "fnExactFillBytes", unfollowed := true, recurses := true, apart := false }
def FnExactFillBytesSaid : Prop := fnExactFillBytesRow.holds Try.pinned (OpenSpec.ofChange fnExactFillBytesSpec)

/-- ITS FALSE NEIGHBOUR: 'it returns false'. Refute it at one input. -/
def fnExactFillBytesWrong : ChangeSpec := { name := "fnExactFillBytes", fn := fun _ => fun
  | [d1, d2] => { results := [.lit (.bool false)], args := [d1, d2] }
  | _ => none }
def FnExactFillBytesWrongFalsely : Prop := fnExactFillBytesRow.holds Try.pinned (OpenSpec.ofChange fnExactFillBytesWrong)

/-- 'laws.FnBytesZeros': WHATEVER THE INPUT: true; the input reads as it did. -/
def fnBytesZerosSpec : ChangeSpec := { name := "fnBytesZeros", fn := fun _ => fun
  | [d1, d2] => { results := [.lit (.bool true)], args := [d1, d2] }
  | _ => none }
def fnBytesZerosRow : OpenClaim := { program := "ytfpkaamldifkbaa", sum := "a78b7282466dce6619e186f53fd569ad28a40913dc22b2debf373f38c7e95455", func := "loop.example/lib-g03408/laws.FnBytesZeros", spec := "fnBytesZeros", apart := false }
def FnBytesZerosSaid : Prop := fnBytesZerosRow.holds Try.pinned (OpenSpec.ofChange fnBytesZerosSpec)

/-- ITS FALSE NEIGHBOUR: 'it returns false'. Refute it at one input. -/
def fnBytesZerosWrong : ChangeSpec := { name := "fnBytesZeros", fn := fun _ => fun
  | [d1, d2] => { results := [.lit (.bool false)], args := [d1, d2] }
  | _ => none }
def FnBytesZerosWrongFalsely : Prop := fnBytesZerosRow.holds Try.pinned (OpenSpec.ofChange fnBytesZerosWrong)

/-- 'laws.FnUint64Bytes': WHATEVER THE INPUT: true; the input reads as it did. -/
def fnUint64BytesSpec : ChangeSpec := { name := "fnUint64Bytes", fn := fun _ => fun
  | [d] => { results := [.lit (.bool true)], args := [d] }
  | _ => none }
def fnUint64BytesRow : OpenClaim := { program := "ytfpkaamldifkbaa", sum := "a78b7282466dce6619e186f53fd569ad28a40913dc22b2debf373f38c7e95455", func := "loop.example/lib-g03408/laws.FnUint64Bytes", spec := "fnUint64Bytes", apart := false }
def FnUint64BytesSaid : Prop := fnUint64BytesRow.holds Try.pinned (OpenSpec.ofChange fnUint64BytesSpec)

/-- ITS FALSE NEIGHBOUR: 'it returns false'. Refute it at one input. -/
def fnUint64BytesWrong : ChangeSpec := { name := "fnUint64Bytes", fn := fun _ => fun
  | [d] => { results := [.lit (.bool false)], args := [d] }
  | _ => none }
def FnUint64BytesWrongFalsely : Prop := fnUint64BytesRow.holds Try.pinned (OpenSpec.ofChange fnUint64BytesWrong)

/-- 'laws.FnFillBytes': WHATEVER THE INPUT: true; the input reads as it did. -/
def fnFillBytesSpec : ChangeSpec := { name := "fnFillBytes", fn := fun _ => fun
  | [d1, d2] => { results := [.lit (.bool true)], args := [d1, d2] }
  | _ => none }
def fnFillBytesRow : OpenClaim := { program := "ytfpkaamldifkbaa", sum := "a78b7282466dce6619e186f53fd569ad28a40913dc22b2debf373f38c7e95455", func := "loop.example/lib-g03408/laws.FnFillBytes", spec := "fnFillBytes", unfollowed := true, recurses := true, apart := false }
def FnFillBytesSaid : Prop := fnFillBytesRow.holds Try.pinned (OpenSpec.ofChange fnFillBytesSpec)

/-- ITS FALSE NEIGHBOUR: 'it returns false'. Refute it at one input. -/
def fnFillBytesWrong : ChangeSpec := { name := "fnFillBytes", fn := fun _ => fun
  | [d1, d2] => { results := [.lit (.bool false)], args := [d1, d2] }
  | _ => none }
def FnFillBytesWrongFalsely : Prop := fnFillBytesRow.holds Try.pinned (OpenSpec.ofChange fnFillBytesWrong)

/-- 'laws.FnBytesRound': WHATEVER THE INPUT: true; the input reads as it did. -/
def fnBytesRoundSpec : ChangeSpec := { name := "fnBytesRound", fn := fun _ => fun
  | [d] => { results := [.lit (.bool true)], args := [d] }
  | _ => none }
def fnBytesRoundRow : OpenClaim := { program := "ytfpkaamldifkbaa", sum := "a78b7282466dce6619e186f53fd569ad28a40913dc22b2debf373f38c7e95455", func := "loop.example/lib-g03408/laws.FnBytesRound", spec := "fnBytesRound", apart := false }
def FnBytesRoundSaid : Prop := fnBytesRoundRow.holds Try.pinned (OpenSpec.ofChange fnBytesRoundSpec)

/-- ITS FALSE NEIGHBOUR: 'it returns false'. Refute it at one input. -/
def fnBytesRoundWrong : ChangeSpec := { name := "fnBytesRound", fn := fun _ => fun
  | [d] => { results := [.lit (.bool false)], args := [d] }
  | _ => none }
def FnBytesRoundWrongFalsely : Prop := fnBytesRoundRow.holds Try.pinned (OpenSpec.ofChange fnBytesRoundWrong)

/-- 'laws.FnBytesJoined': WHATEVER THE INPUT: true; the input reads as it did. -/
def fnBytesJoinedSpec : ChangeSpec := { name := "fnBytesJoined", fn := fun _ => fun
  | [d1, d2] => { results := [.lit (.bool true)], args := [d1, d2] }
  | _ => none }
def fnBytesJoinedRow : OpenClaim := { program := "ytfpkaamldifkbaa", sum := "a78b7282466dce6619e186f53fd569ad28a40913dc22b2debf373f38c7e95455", func := "loop.example/lib-g03408/laws.FnBytesJoined", spec := "fnBytesJoined", inPlace := ["math/big.lshVU", "math/big.addVV", "math/bits.Add64", "math/big.subVV", "math/bits.Sub64"], recurses := true, apart := false }
def FnBytesJoinedSaid : Prop := fnBytesJoinedRow.holds Try.pinned (OpenSpec.ofChange fnBytesJoinedSpec)

/-- ITS FALSE NEIGHBOUR: 'it returns false'. Refute it at one input. -/
def fnBytesJoinedWrong : ChangeSpec := { name := "fnBytesJoined", fn := fun _ => fun
  | [d1, d2] => { results := [.lit (.bool false)], args := [d1, d2] }
  | _ => none }
def FnBytesJoinedWrongFalsely : Prop := fnBytesJoinedRow.holds Try.pinned (OpenSpec.ofChange fnBytesJoinedWrong)

/- THE SECOND FORM. 'bulk': how many values and letters a reading holds, each counted each time it is reached (what is shared counts as often as it is met; a slice's spare places count too). A statement '..UptoSaid' is the law's where the arguments, and the package variables that the reading takes, are together of bulk at most 1048576: NARROWER than '..Said'. Prove '..Said' where nothing that the law and all that it calls make is longer than what came in: it says more and counts as full. Else prove '..UptoSaid'. A law counts once. -/
mutual
def uptoBulk {H : Type} : DataW H → Nat
  | .lit (.string bytes) => bytes.length + 1
  | .lit _ => 1
  | .nil => 1
  | .ptr d => uptoBulk d + 1
  | .slice elems spare => uptoBulkAll elems + uptoBulkAll spare + 1
  | .agg parts => uptoBulkAll parts + 1
  | .iface _ d => uptoBulk d + 1
  | .map entries => uptoBulkEntries entries + 1
  | .held _ => 1
def uptoBulkAll {H : Type} : List (DataW H) → Nat
  | [] => 0
  | d :: r => uptoBulk d + uptoBulkAll r
def uptoBulkEntries {H : Type} : List (Lit × DataW H) → Nat
  | [] => 0
  | x :: r => uptoBulkEntry x + uptoBulkEntries r
def uptoBulkEntry {H : Type} : Lit × DataW H → Nat
  | (.string bytes, d) => bytes.length + uptoBulk d + 1
  | (_, d) => uptoBulk d + 1
 end
def uptoSmall : (H : Type) → List (DataW H) → Bool := fun _ ds => decide (uptoBulkAll ds ≤ 1048576)
def OpenSpec.upto (s : _root_.Go.ChangeSpec) : _root_.Go.OpenSpec := { _root_.Go.OpenSpec.ofChange s with cond := some uptoSmall }

/-- 'laws.FnExactBytesFew', WHERE WHAT IT READS IS OF BULK AT MOST 1048576: true; the input reads as it did. -/
def fnExactBytesFewUptoRow : OpenClaim := { program := "ytfpkaamldifkbaa", sum := "a78b7282466dce6619e186f53fd569ad28a40913dc22b2debf373f38c7e95455", func := "loop.example/lib-g03408/laws.FnExactBytesFew", spec := "fnExactBytesFew", apart := false, narrowed := true }
def FnExactBytesFewUptoSaid : Prop := fnExactBytesFewUptoRow.holds Try.pinned (OpenSpec.upto fnExactBytesFewSpec)

/-- 'laws.FnExactFillBytes', WHERE WHAT IT READS IS OF BULK AT MOST 1048576: true; the input reads as it did. -/
def fnExactFillBytesUptoRow : OpenClaim := { program := "ytfpkaamldifkbaa", sum := "a78b7282466dce6619e186f53fd569ad28a40913dc22b2debf373f38c7e95455", func := "loop.example/lib-g03408/laws.FnExactFillBytes", spec := "fnExactFillBytes", unfollowed := true, recurses := true, apart := false, narrowed := true }
def FnExactFillBytesUptoSaid : Prop := fnExactFillBytesUptoRow.holds Try.pinned (OpenSpec.upto fnExactFillBytesSpec)

/-- 'laws.FnBytesZeros', WHERE WHAT IT READS IS OF BULK AT MOST 1048576: true; the input reads as it did. -/
def fnBytesZerosUptoRow : OpenClaim := { program := "ytfpkaamldifkbaa", sum := "a78b7282466dce6619e186f53fd569ad28a40913dc22b2debf373f38c7e95455", func := "loop.example/lib-g03408/laws.FnBytesZeros", spec := "fnBytesZeros", apart := false, narrowed := true }
def FnBytesZerosUptoSaid : Prop := fnBytesZerosUptoRow.holds Try.pinned (OpenSpec.upto fnBytesZerosSpec)

/-- 'laws.FnUint64Bytes', WHERE WHAT IT READS IS OF BULK AT MOST 1048576: true; the input reads as it did. -/
def fnUint64BytesUptoRow : OpenClaim := { program := "ytfpkaamldifkbaa", sum := "a78b7282466dce6619e186f53fd569ad28a40913dc22b2debf373f38c7e95455", func := "loop.example/lib-g03408/laws.FnUint64Bytes", spec := "fnUint64Bytes", apart := false, narrowed := true }
def FnUint64BytesUptoSaid : Prop := fnUint64BytesUptoRow.holds Try.pinned (OpenSpec.upto fnUint64BytesSpec)

/-- 'laws.FnFillBytes', WHERE WHAT IT READS IS OF BULK AT MOST 1048576: true; the input reads as it did. -/
def fnFillBytesUptoRow : OpenClaim := { program := "ytfpkaamldifkbaa", sum := "a78b7282466dce6619e186f53fd569ad28a40913dc22b2debf373f38c7e95455", func := "loop.example/lib-g03408/laws.FnFillBytes", spec := "fnFillBytes", unfollowed := true, recurses := true, apart := false, narrowed := true }
def FnFillBytesUptoSaid : Prop := fnFillBytesUptoRow.holds Try.pinned (OpenSpec.upto fnFillBytesSpec)

/-- 'laws.FnBytesRound', WHERE WHAT IT READS IS OF BULK AT MOST 1048576: true; the input reads as it did. -/
def fnBytesRoundUptoRow : OpenClaim := { program := "ytfpkaamldifkbaa", sum := "a78b7282466dce6619e186f53fd569ad28a40913dc22b2debf373f38c7e95455", func := "loop.example/lib-g03408/laws.FnBytesRound", spec := "fnBytesRound", apart := false, narrowed := true }
def FnBytesRoundUptoSaid : Prop := fnBytesRoundUptoRow.holds Try.pinned (OpenSpec.upto fnBytesRoundSpec)

/-- 'laws.FnBytesJoined', WHERE WHAT IT READS IS OF BULK AT MOST 1048576: true; the input reads as it did. -/
def fnBytesJoinedUptoRow : OpenClaim := { program := "ytfpkaamldifkbaa", sum := "a78b7282466dce6619e186f53fd569ad28a40913dc22b2debf373f38c7e95455", func := "loop.example/lib-g03408/laws.FnBytesJoined", spec := "fnBytesJoined", inPlace := ["math/big.lshVU", "math/big.addVV", "math/bits.Add64", "math/big.subVV", "math/bits.Sub64"], recurses := true, apart := false, narrowed := true }
def FnBytesJoinedUptoSaid : Prop := fnBytesJoinedUptoRow.holds Try.pinned (OpenSpec.upto fnBytesJoinedSpec)

end Rows
end Go.Proofs.Ytfpkaamldifkbaa
