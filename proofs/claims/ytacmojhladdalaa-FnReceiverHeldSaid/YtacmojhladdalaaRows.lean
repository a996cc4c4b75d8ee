/-
  No cell of these rows narrows 'for every input' (looked for: loops, veiled, ifaces, maps, wideKeys, modest, calm, conditions, laid).
  DERIVED. THE GIVEN ROWS OF THIS SEAT. 12 by the template 'for every input the law returns true; each argument reads behind the call as it read before'; 0 by the template 'total and deterministic' (their statements: YtacmojhladdalaaTotals.lean).
  GIVEN WITH THE SEED: the statements are not yours to turn. If you find one false, say at which input.
  Laid BY PROGRAM, IN A SANDBOX (cutbox-rows.mjs): the forced cells as the released guide's own fill.sh prints them over the translation fcbf6a9b8943feaf… (all of the seat's roots in one cut). By AI agents, Wed Nov 11 2026. No macro, syntax, notation, axiom, sorry.
-/
import Derived.Test.YtacmojhladdalaaChecked
import GoSem.Claim
import GoSem.ClaimJoined
import GoSem.ClaimMapViews
import Derived.JoinedTies
import Derived.KernelRfl
namespace Go.Proofs.Ytacmojhladdalaa
/- THE CELL 'sum', in the pinned program and in every row, IS THE sha256 OF THE DUMP (.gsa) THAT YtacmojhladdalaaProg.lean LOADS. Nothing in Lean hashes anything: it is a label: what it is worth is what the hold of that sum in a sandbox is worth. -/
noncomputable def Try.pinned : Pinned := { name := "ytacmojhladdalaa", sum := "fcbf6a9b8943feaf5cc32d6a56457a56528f160d17b91442096ca3351b2b387b", checked := Try.checked }
namespace Rows
def none {H : Type} : Left H := { results := [], args := [] }

/-- 'laws.FnExactAdd': WHATEVER THE INPUT: true; the input reads as it did. -/
def fnExactAddSpec : ChangeSpec := { name := "fnExactAdd", fn := fun _ => fun
  | [d1, d2, d3, d4] => { results := [.lit (.bool true)], args := [d1, d2, d3, d4] }
  | _ => none }
def fnExactAddRow : OpenClaim := { program := "ytacmojhladdalaa", sum := "fcbf6a9b8943feaf5cc32d6a56457a56528f160d17b91442096ca3351b2b387b", func := "loop.example/lib-g03408/laws.FnExactAdd", spec := "fnExactAdd", inPlace := ["math/big.addVV", "math/bits.Add64", "math/big.subVV", "math/bits.Sub64"], recurses := true, apart := false }
def FnExactAddSaid : Prop := fnExactAddRow.holds Try.pinned (OpenSpec.ofChange fnExactAddSpec)

/-- ITS FALSE NEIGHBOUR: 'it returns false'. Refute it at one input. -/
def fnExactAddWrong : ChangeSpec := { name := "fnExactAdd", fn := fun _ => fun
  | [d1, d2, d3, d4] => { results := [.lit (.bool false)], args := [d1, d2, d3, d4] }
  | _ => none }
def FnExactAddWrongFalsely : Prop := fnExactAddRow.holds Try.pinned (OpenSpec.ofChange fnExactAddWrong)

/-- 'laws.FnExactSub': WHATEVER THE INPUT: true; the input reads as it did. -/
def fnExactSubSpec : ChangeSpec := { name := "fnExactSub", fn := fun _ => fun
  | [d1, d2, d3, d4] => { results := [.lit (.bool true)], args := [d1, d2, d3, d4] }
  | _ => none }
def fnExactSubRow : OpenClaim := { program := "ytacmojhladdalaa", sum := "fcbf6a9b8943feaf5cc32d6a56457a56528f160d17b91442096ca3351b2b387b", func := "loop.example/lib-g03408/laws.FnExactSub", spec := "fnExactSub", inPlace := ["math/big.addVV", "math/bits.Add64", "math/big.subVV", "math/bits.Sub64"], recurses := true, apart := false }
def FnExactSubSaid : Prop := fnExactSubRow.holds Try.pinned (OpenSpec.ofChange fnExactSubSpec)

/-- ITS FALSE NEIGHBOUR: 'it returns false'. Refute it at one input. -/
def fnExactSubWrong : ChangeSpec := { name := "fnExactSub", fn := fun _ => fun
  | [d1, d2, d3, d4] => { results := [.lit (.bool false)], args := [d1, d2, d3, d4] }
  | _ => none }
def FnExactSubWrongFalsely : Prop := fnExactSubRow.holds Try.pinned (OpenSpec.ofChange fnExactSubWrong)

/-- 'laws.FnNegTwice': WHATEVER THE INPUT: true; the input reads as it did. -/
def fnNegTwiceSpec : ChangeSpec := { name := "fnNegTwice", fn := fun _ => fun
  | [d1, d2] => { results := [.lit (.bool true)], args := [d1, d2] }
  | _ => none }
def fnNegTwiceRow : OpenClaim := { program := "ytacmojhladdalaa", sum := "fcbf6a9b8943feaf5cc32d6a56457a56528f160d17b91442096ca3351b2b387b", func := "loop.example/lib-g03408/laws.FnNegTwice", spec := "fnNegTwice", inPlace := ["math/big.addVV", "math/bits.Add64", "math/big.subVV", "math/bits.Sub64"], recurses := true, apart := false }
def FnNegTwiceSaid : Prop := fnNegTwiceRow.holds Try.pinned (OpenSpec.ofChange fnNegTwiceSpec)

/-- ITS FALSE NEIGHBOUR: 'it returns false'. Refute it at one input. -/
def fnNegTwiceWrong : ChangeSpec := { name := "fnNegTwice", fn := fun _ => fun
  | [d1, d2] => { results := [.lit (.bool false)], args := [d1, d2] }
  | _ => none }
def FnNegTwiceWrongFalsely : Prop := fnNegTwiceRow.holds Try.pinned (OpenSpec.ofChange fnNegTwiceWrong)

/-- 'laws.FnAddAssociates': WHATEVER THE INPUT: true; the input reads as it did. -/
def fnAddAssociatesSpec : ChangeSpec := { name := "fnAddAssociates", fn := fun _ => fun
  | [d1, d2, d3] => { results := [.lit (.bool true)], args := [d1, d2, d3] }
  | _ => none }
def fnAddAssociatesRow : OpenClaim := { program := "ytacmojhladdalaa", sum := "fcbf6a9b8943feaf5cc32d6a56457a56528f160d17b91442096ca3351b2b387b", func := "loop.example/lib-g03408/laws.FnAddAssociates", spec := "fnAddAssociates", inPlace := ["math/big.addVV", "math/bits.Add64", "math/big.subVV", "math/bits.Sub64"], recurses := true, apart := false }
def FnAddAssociatesSaid : Prop := fnAddAssociatesRow.holds Try.pinned (OpenSpec.ofChange fnAddAssociatesSpec)

/-- ITS FALSE NEIGHBOUR: 'it returns false'. Refute it at one input. -/
def fnAddAssociatesWrong : ChangeSpec := { name := "fnAddAssociates", fn := fun _ => fun
  | [d1, d2, d3] => { results := [.lit (.bool false)], args := [d1, d2, d3] }
  | _ => none }
def FnAddAssociatesWrongFalsely : Prop := fnAddAssociatesRow.holds Try.pinned (OpenSpec.ofChange fnAddAssociatesWrong)

/-- 'laws.FnAddCommutes': WHATEVER THE INPUT: true; the input reads as it did. -/
def fnAddCommutesSpec : ChangeSpec := { name := "fnAddCommutes", fn := fun _ => fun
  | [d1, d2] => { results := [.lit (.bool true)], args := [d1, d2] }
  | _ => none }
def fnAddCommutesRow : OpenClaim := { program := "ytacmojhladdalaa", sum := "fcbf6a9b8943feaf5cc32d6a56457a56528f160d17b91442096ca3351b2b387b", func := "loop.example/lib-g03408/laws.FnAddCommutes", spec := "fnAddCommutes", inPlace := ["math/big.addVV", "math/bits.Add64", "math/big.subVV", "math/bits.Sub64"], recurses := true, apart := false }
def FnAddCommutesSaid : Prop := fnAddCommutesRow.holds Try.pinned (OpenSpec.ofChange fnAddCommutesSpec)

/-- ITS FALSE NEIGHBOUR: 'it returns false'. Refute it at one input. -/
def fnAddCommutesWrong : ChangeSpec := { name := "fnAddCommutes", fn := fun _ => fun
  | [d1, d2] => { results := [.lit (.bool false)], args := [d1, d2] }
  | _ => none }
def FnAddCommutesWrongFalsely : Prop := fnAddCommutesRow.holds Try.pinned (OpenSpec.ofChange fnAddCommutesWrong)

/-- 'laws.FnCmpDifference': WHATEVER THE INPUT: true; the input reads as it did. -/
def fnCmpDifferenceSpec : ChangeSpec := { name := "fnCmpDifference", fn := fun _ => fun
  | [d1, d2] => { results := [.lit (.bool true)], args := [d1, d2] }
  | _ => none }
def fnCmpDifferenceRow : OpenClaim := { program := "ytacmojhladdalaa", sum := "fcbf6a9b8943feaf5cc32d6a56457a56528f160d17b91442096ca3351b2b387b", func := "loop.example/lib-g03408/laws.FnCmpDifference", spec := "fnCmpDifference", inPlace := ["math/big.addVV", "math/bits.Add64", "math/big.subVV", "math/bits.Sub64"], recurses := true, apart := false }
def FnCmpDifferenceSaid : Prop := fnCmpDifferenceRow.holds Try.pinned (OpenSpec.ofChange fnCmpDifferenceSpec)

/-- ITS FALSE NEIGHBOUR: 'it returns false'. Refute it at one input. -/
def fnCmpDifferenceWrong : ChangeSpec := { name := "fnCmpDifference", fn := fun _ => fun
  | [d1, d2] => { results := [.lit (.bool false)], args := [d1, d2] }
  | _ => none }
def FnCmpDifferenceWrongFalsely : Prop := fnCmpDifferenceRow.holds Try.pinned (OpenSpec.ofChange fnCmpDifferenceWrong)

/-- 'laws.FnReceiverHeld': WHATEVER THE INPUT: true; the input reads as it did. -/
def fnReceiverHeldSpec : ChangeSpec := { name := "fnReceiverHeld", fn := fun _ => fun
  | [d1, d2, d3, d4] => { results := [.lit (.bool true)], args := [d1, d2, d3, d4] }
  | _ => none }
def fnReceiverHeldRow : OpenClaim := { program := "ytacmojhladdalaa", sum := "fcbf6a9b8943feaf5cc32d6a56457a56528f160d17b91442096ca3351b2b387b", func := "loop.example/lib-g03408/laws.FnReceiverHeld", spec := "fnReceiverHeld", inPlace := ["math/big.addVV", "math/bits.Add64", "math/big.subVV", "math/bits.Sub64"], recurses := true, apart := false }
def FnReceiverHeldSaid : Prop := fnReceiverHeldRow.holds Try.pinned (OpenSpec.ofChange fnReceiverHeldSpec)

/-- ITS FALSE NEIGHBOUR: 'it returns false'. Refute it at one input. -/
def fnReceiverHeldWrong : ChangeSpec := { name := "fnReceiverHeld", fn := fun _ => fun
  | [d1, d2, d3, d4] => { results := [.lit (.bool false)], args := [d1, d2, d3, d4] }
  | _ => none }
def FnReceiverHeldWrongFalsely : Prop := fnReceiverHeldRow.holds Try.pinned (OpenSpec.ofChange fnReceiverHeldWrong)

/-- 'laws.FnCmpSums': WHATEVER THE INPUT: true; the input reads as it did. -/
def fnCmpSumsSpec : ChangeSpec := { name := "fnCmpSums", fn := fun _ => fun
  | [d1, d2, d3] => { results := [.lit (.bool true)], args := [d1, d2, d3] }
  | _ => none }
def fnCmpSumsRow : OpenClaim := { program := "ytacmojhladdalaa", sum := "fcbf6a9b8943feaf5cc32d6a56457a56528f160d17b91442096ca3351b2b387b", func := "loop.example/lib-g03408/laws.FnCmpSums", spec := "fnCmpSums", inPlace := ["math/big.addVV", "math/bits.Add64", "math/big.subVV", "math/bits.Sub64"], recurses := true, apart := false }
def FnCmpSumsSaid : Prop := fnCmpSumsRow.holds Try.pinned (OpenSpec.ofChange fnCmpSumsSpec)

/-- ITS FALSE NEIGHBOUR: 'it returns false'. Refute it at one input. -/
def fnCmpSumsWrong : ChangeSpec := { name := "fnCmpSums", fn := fun _ => fun
  | [d1, d2, d3] => { results := [.lit (.bool false)], args := [d1, d2, d3] }
  | _ => none }
def FnCmpSumsWrongFalsely : Prop := fnCmpSumsRow.holds Try.pinned (OpenSpec.ofChange fnCmpSumsWrong)

/-- 'laws.FnAddZero': WHATEVER THE INPUT: true; the input reads as it did. -/
def fnAddZeroSpec : ChangeSpec := { name := "fnAddZero", fn := fun _ => fun
  | [d] => { results := [.lit (.bool true)], args := [d] }
  | _ => none }
def fnAddZeroRow : OpenClaim := { program := "ytacmojhladdalaa", sum := "fcbf6a9b8943feaf5cc32d6a56457a56528f160d17b91442096ca3351b2b387b", func := "loop.example/lib-g03408/laws.FnAddZero", spec := "fnAddZero", inPlace := ["math/big.addVV", "math/bits.Add64", "math/big.subVV", "math/bits.Sub64"], recurses := true, apart := false }
def FnAddZeroSaid : Prop := fnAddZeroRow.holds Try.pinned (OpenSpec.ofChange fnAddZeroSpec)

/-- ITS FALSE NEIGHBOUR: 'it returns false'. Refute it at one input. -/
def fnAddZeroWrong : ChangeSpec := { name := "fnAddZero", fn := fun _ => fun
  | [d] => { results := [.lit (.bool false)], args := [d] }
  | _ => none }
def FnAddZeroWrongFalsely : Prop := fnAddZeroRow.holds Try.pinned (OpenSpec.ofChange fnAddZeroWrong)

/-- 'laws.FnSubUndoes': WHATEVER THE INPUT: true; the input reads as it did. -/
def fnSubUndoesSpec : ChangeSpec := { name := "fnSubUndoes", fn := fun _ => fun
  | [d1, d2] => { results := [.lit (.bool true)], args := [d1, d2] }
  | _ => none }
def fnSubUndoesRow : OpenClaim := { program := "ytacmojhladdalaa", sum := "fcbf6a9b8943feaf5cc32d6a56457a56528f160d17b91442096ca3351b2b387b", func := "loop.example/lib-g03408/laws.FnSubUndoes", spec := "fnSubUndoes", inPlace := ["math/big.addVV", "math/bits.Add64", "math/big.subVV", "math/bits.Sub64"], recurses := true, apart := false }
def FnSubUndoesSaid : Prop := fnSubUndoesRow.holds Try.pinned (OpenSpec.ofChange fnSubUndoesSpec)

/-- ITS FALSE NEIGHBOUR: 'it returns false'. Refute it at one input. -/
def fnSubUndoesWrong : ChangeSpec := { name := "fnSubUndoes", fn := fun _ => fun
  | [d1, d2] => { results := [.lit (.bool false)], args := [d1, d2] }
  | _ => none }
def FnSubUndoesWrongFalsely : Prop := fnSubUndoesRow.holds Try.pinned (OpenSpec.ofChange fnSubUndoesWrong)

/-- 'laws.FnSignedParts': WHATEVER THE INPUT: true; the input reads as it did. -/
def fnSignedPartsSpec : ChangeSpec := { name := "fnSignedParts", fn := fun _ => fun
  | [d1, d2] => { results := [.lit (.bool true)], args := [d1, d2] }
  | _ => none }
def fnSignedPartsRow : OpenClaim := { program := "ytacmojhladdalaa", sum := "fcbf6a9b8943feaf5cc32d6a56457a56528f160d17b91442096ca3351b2b387b", func := "loop.example/lib-g03408/laws.FnSignedParts", spec := "fnSignedParts", inPlace := ["math/big.addVV", "math/bits.Add64", "math/big.subVV", "math/bits.Sub64"], recurses := true, apart := false }
def FnSignedPartsSaid : Prop := fnSignedPartsRow.holds Try.pinned (OpenSpec.ofChange fnSignedPartsSpec)

/-- ITS FALSE NEIGHBOUR: 'it returns false'. Refute it at one input. -/
def fnSignedPartsWrong : ChangeSpec := { name := "fnSignedParts", fn := fun _ => fun
  | [d1, d2] => { results := [.lit (.bool false)], args := [d1, d2] }
  | _ => none }
def FnSignedPartsWrongFalsely : Prop := fnSignedPartsRow.holds Try.pinned (OpenSpec.ofChange fnSignedPartsWrong)

/-- 'laws.FnTriangle': WHATEVER THE INPUT: true; the input reads as it did. -/
def fnTriangleSpec : ChangeSpec := { name := "fnTriangle", fn := fun _ => fun
  | [d1, d2] => { results := [.lit (.bool true)], args := [d1, d2] }
  | _ => none }
def fnTriangleRow : OpenClaim := { program := "ytacmojhladdalaa", sum := "fcbf6a9b8943feaf5cc32d6a56457a56528f160d17b91442096ca3351b2b387b", func := "loop.example/lib-g03408/laws.FnTriangle", spec := "fnTriangle", inPlace := ["math/big.addVV", "math/bits.Add64", "math/big.subVV", "math/bits.Sub64"], recurses := true, apart := false }
def FnTriangleSaid : Prop := fnTriangleRow.holds Try.pinned (OpenSpec.ofChange fnTriangleSpec)

/-- ITS FALSE NEIGHBOUR: 'it returns false'. Refute it at one input. -/
def fnTriangleWrong : ChangeSpec := { name := "fnTriangle", fn := fun _ => fun
  | [d1, d2] => { results := [.lit (.bool false)], args := [d1, d2] }
  | _ => none }
def FnTriangleWrongFalsely : Prop := fnTriangleRow.holds Try.pinned (OpenSpec.ofChange fnTriangleWrong)

/- THE SECOND FORM. 'bulk': how many values and letters a reading holds, each counted each time it is reached (what is shared counts as often as it is met; a slice's spare places count too). A statement '..UptoSaid' is the law's where the arguments, and the package variables that the reading takes, are together of bulk at most 1048576: NARROWER than '..Said'. Prove '..Said' where nothing that the law and all that it calls make is longer than what came in: it says more and counts as full. Else prove '..UptoSaid'. A law counts once. -/
mutual
def uptoBulk {H : Type} : DataW H → Nat
  | .lit (.string bytes) => bytes.length + 1
  | .lit _ => 1
  | .nil => 1
  | .ptr d => uptoBulk d + 1
  | .slice elems spare => uptoBulkAll elems + uptoBulkAll spare + 1
  | .agg parts => uptoBulkAll parts + 1
  | .iface _ d => uptoBulk d + 1
  | .map entries => uptoBulkEntries entries + 1
  | .held _ => 1
def uptoBulkAll {H : Type} : List (DataW H) → Nat
  | [] => 0
  | d :: r => uptoBulk d + uptoBulkAll r
def uptoBulkEntries {H : Type} : List (Lit × DataW H) → Nat
  | [] => 0
  | x :: r => uptoBulkEntry x + uptoBulkEntries r
def uptoBulkEntry {H : Type} : Lit × DataW H → Nat
  | (.string bytes, d) => bytes.length + uptoBulk d + 1
  | (_, d) => uptoBulk d + 1
 end
def uptoSmall : (H : Type) → List (DataW H) → Bool := fun _ ds => decide (uptoBulkAll ds ≤ 1048576)
def OpenSpec.upto (s : _root_.Go.ChangeSpec) : _root_.Go.OpenSpec := { _root_.Go.OpenSpec.ofChange s with cond := some uptoSmall }

/-- 'laws.FnExactAdd', WHERE WHAT IT READS IS OF BULK AT MOST 1048576: true; the input reads as it did. -/
def fnExactAddUptoRow : OpenClaim := { program := "ytacmojhladdalaa", sum := "fcbf6a9b8943feaf5cc32d6a56457a56528f160d17b91442096ca3351b2b387b", func := "loop.example/lib-g03408/laws.FnExactAdd", spec := "fnExactAdd", inPlace := ["math/big.addVV", "math/bits.Add64", "math/big.subVV", "math/bits.Sub64"], recurses := true, apart := false, narrowed := true }
def FnExactAddUptoSaid : Prop := fnExactAddUptoRow.holds Try.pinned (OpenSpec.upto fnExactAddSpec)

/-- 'laws.FnExactSub', WHERE WHAT IT READS IS OF BULK AT MOST 1048576: true; the input reads as it did. -/
def fnExactSubUptoRow : OpenClaim := { program := "ytacmojhladdalaa", sum := "fcbf6a9b8943feaf5cc32d6a56457a56528f160d17b91442096ca3351b2b387b", func := "loop.example/lib-g03408/laws.FnExactSub", spec := "fnExactSub", inPlace := ["math/big.addVV", "math/bits.Add64", "math/big.subVV", "math/bits.Sub64"], recurses := true, apart := false, narrowed := true }
def FnExactSubUptoSaid : Prop := fnExactSubUptoRow.holds Try.pinned (OpenSpec.upto fnExactSubSpec)

/-- 'laws.FnNegTwice', WHERE WHAT IT READS IS OF BULK AT MOST 1048576: true; the input reads as it did. -/
def fnNegTwiceUptoRow : OpenClaim := { program := "ytacmojhladdalaa", sum := "fcbf6a9b8943feaf5cc32d6a56457a56528f160d17b91442096ca3351b2b387b", func := "loop.example/lib-g03408/laws.FnNegTwice", spec := "fnNegTwice", inPlace := ["math/big.addVV", "math/bits.Add64", "math/big.subVV", "math/bits.Sub64"], recurses := true, apart := false, narrowed := true }
def FnNegTwiceUptoSaid : Prop := fnNegTwiceUptoRow.holds Try.pinned (OpenSpec.upto fnNegTwiceSpec)

/-- 'laws.FnAddAssociates', WHERE WHAT IT READS IS OF BULK AT MOST 1048576: true; the input reads as it did. -/
def fnAddAssociatesUptoRow : OpenClaim := { program := "ytacmojhladdalaa", sum := "fcbf6a9b8943feaf5cc32d6a56457a56528f160d17b91442096ca3351b2b387b", func := "loop.example/lib-g03408/laws.FnAddAssociates", spec := "fnAddAssociates", inPlace := ["math/big.addVV", "math/bits.Add64", "math/big.subVV", "math/bits.Sub64"], recurses := true, apart := false, narrowed := true }
def FnAddAssociatesUptoSaid : Prop := fnAddAssociatesUptoRow.holds Try.pinned (OpenSpec.upto fnAddAssociatesSpec)

/-- 'laws.FnAddCommutes', WHERE WHAT IT READS IS OF BULK AT MOST 1048576: true; the input reads as it did. -/
def fnAddCommutesUptoRow : OpenClaim := { program := "ytacmojhladdalaa", sum := "fcbf6a9b8943feaf5cc32d6a56457a56528f160d17b91442096ca3351b2b387b", func := "loop.example/lib-g03408/laws.FnAddCommutes", spec := "fnAddCommutes", inPlace := ["math/big.addVV", "math/bits.Add64", "math/big.subVV", "math/bits.Sub64"], recurses := true, apart := false, narrowed := true }
def FnAddCommutesUptoSaid : Prop := fnAddCommutesUptoRow.holds Try.pinned (OpenSpec.upto fnAddCommutesSpec)

/-- 'laws.FnCmpDifference', WHERE WHAT IT READS IS OF BULK AT MOST 1048576: true; the input reads as it did. -/
def fnCmpDifferenceUptoRow : OpenClaim := { program := "ytacmojhladdalaa", sum := "fcbf6a9b8943feaf5cc32d6a56457a56528f160d17b91442096ca3351b2b387b", func := "loop.example/lib-g03408/laws.FnCmpDifference", spec := "fnCmpDifference", inPlace := ["math/big.addVV", "math/bits.Add64", "math/big.subVV", "math/bits.Sub64"], recurses := true, apart := false, narrowed := true }
def FnCmpDifferenceUptoSaid : Prop := fnCmpDifferenceUptoRow.holds Try.pinned (OpenSpec.upto fnCmpDifferenceSpec)

/-- 'laws.FnReceiverHeld', WHERE WHAT IT READS IS OF BULK AT MOST 1048576: true; the input reads as it did. -/
def fnReceiverHeldUptoRow : OpenClaim := { program := "ytacmojhladdalaa", sum := "fcbf6a9b8943feaf5cc32d6a56457a56528f160d17b91442096ca3351b2b387b", func := "loop.example/lib-g03408/laws.FnReceiverHeld", spec := "fnReceiverHeld", inPlace := ["math/big.addVV", "math/bits.Add64", "math/big.subVV", "math/bits.Sub64"], recurses := true, apart := false, narrowed := true }
def FnReceiverHeldUptoSaid : Prop := fnReceiverHeldUptoRow.holds Try.pinned (OpenSpec.upto fnReceiverHeldSpec)

/-- 'laws.FnCmpSums', WHERE WHAT IT READS IS OF BULK AT MOST 1048576: true; the input reads as it did. -/
def fnCmpSumsUptoRow : OpenClaim := { program := "ytacmojhladdalaa", sum := "fcbf6a9b8943feaf5cc32d6a56457a56528f160d17b91442096ca3351b2b387b", func := "loop.example/lib-g03408/laws.FnCmpSums", spec := "fnCmpSums", inPlace := ["math/big.addVV", "math/bits.Add64", "math/big.subVV", "math/bits.Sub64"], recurses := true, apart := false, narrowed := true }
def FnCmpSumsUptoSaid : Prop := fnCmpSumsUptoRow.holds Try.pinned (OpenSpec.upto fnCmpSumsSpec)

/-- 'laws.FnAddZero', WHERE WHAT IT READS IS OF BULK AT MOST 1048576: true; the input reads as it did. -/
def fnAddZeroUptoRow : OpenClaim := { program := "ytacmojhladdalaa", sum := "fcbf6a9b8943feaf5cc32d6a56457a56528f160d17b91442096ca3351b2b387b", func := "loop.example/lib-g03408/laws.FnAddZero", spec := "fnAddZero", inPlace := ["math/big.addVV", "math/bits.Add64", "math/big.subVV", "math/bits.Sub64"], recurses := true, apart := false, narrowed := true }
def FnAddZeroUptoSaid : Prop := fnAddZeroUptoRow.holds Try.pinned (OpenSpec.upto fnAddZeroSpec)

/-- 'laws.FnSubUndoes', WHERE WHAT IT READS IS OF BULK AT MOST 1048576: true; the input reads as it did. -/
def fnSubUndoesUptoRow : OpenClaim := { program := "ytacmojhladdalaa", sum := "fcbf6a9b8943feaf5cc32d6a56457a56528f160d17b91442096ca3351b2b387b", func := "loop.example/lib-g03408/laws.FnSubUndoes", spec := "fnSubUndoes", inPlace := ["math/big.addVV", "math/bits.Add64", "math/big.subVV", "math/bits.Sub64"], recurses := true, apart := false, narrowed := true }
def FnSubUndoesUptoSaid : Prop := fnSubUndoesUptoRow.holds Try.pinned (OpenSpec.upto fnSubUndoesSpec)

/-- 'laws.FnSignedParts', WHERE WHAT IT READS IS OF BULK AT MOST 1048576: true; the input reads as it did. -/
def fnSignedPartsUptoRow : OpenClaim := { program := "ytacmojhladdalaa", sum := "fcbf6a9b8943feaf5cc32d6a56457a56528f160d17b91442096ca3351b2b387b", func := "loop.example/lib-g03408/laws.FnSignedParts", spec := "fnSignedParts", inPlace := ["math/big.addVV", "math/bits.Add64", "math/big.subVV", "math/bits.Sub64"], recurses := true, apart := false, narrowed := true }
def FnSignedPartsUptoSaid : Prop := fnSignedPartsUptoRow.holds Try.pinned (OpenSpec.upto fnSignedPartsSpec)

/-- 'laws.FnTriangle', WHERE WHAT IT READS IS OF BULK AT MOST 1048576: true; the input reads as it did. -/
def fnTriangleUptoRow : OpenClaim := { program := "ytacmojhladdalaa", sum := "fcbf6a9b8943feaf5cc32d6a56457a56528f160d17b91442096ca3351b2b387b", func := "loop.example/lib-g03408/laws.FnTriangle", spec := "fnTriangle", inPlace := ["math/big.addVV", "math/bits.Add64", "math/big.subVV", "math/bits.Sub64"], recurses := true, apart := false, narrowed := true }
def FnTriangleUptoSaid : Prop := fnTriangleUptoRow.holds Try.pinned (OpenSpec.upto fnTriangleSpec)

end Rows
end Go.Proofs.Ytacmojhladdalaa
