/-
  No cell of these rows narrows 'for every input' (looked for: loops, veiled, ifaces, maps, wideKeys, modest, calm, conditions, laid).
  DERIVED. THE GIVEN ROWS OF THIS SEAT. 12 by the template 'for every input the law returns true; each argument reads behind the call as it read before'; 0 by the template 'total and deterministic' (their statements: YtgeddjobgokfaaaTotals.lean).
  GIVEN WITH THE SEED: the statements are not yours to turn. If you find one false, say at which input.
  Laid BY PROGRAM, IN A SANDBOX (cutbox-rows.mjs): the forced cells as the released guide's own fill.sh prints them over the translation 143cdcc2b82f1ae3… (all of the seat's roots in one cut). By AI agents, Wed Nov 11 2026. No macro, syntax, notation, axiom, sorry.
-/
import Derived.Test.YtgeddjobgokfaaaChecked
import GoSem.Claim
import GoSem.ClaimJoined
import GoSem.ClaimMapViews
import Derived.JoinedTies
import Derived.KernelRfl
namespace Go.Proofs.Ytgeddjobgokfaaa
/- THE CELL 'sum', in the pinned program and in every row, IS THE sha256 OF THE DUMP (.gsa) THAT YtgeddjobgokfaaaProg.lean LOADS. Nothing in Lean hashes anything: it is a label: what it is worth is what the hold of that sum in a sandbox is worth. -/
noncomputable def Try.pinned : Pinned := { name := "ytgeddjobgokfaaa", sum := "143cdcc2b82f1ae3fc3c34aa5c5d3c6d5c1b5694102f42c61e10fb6f34abd2e0", checked := Try.checked }
namespace Rows
def none {H : Type} : Left H := { results := [], args := [] }

/-- 'laws.FnExactNeg': WHATEVER THE INPUT: true; the input reads as it did. -/
def fnExactNegSpec : ChangeSpec := { name := "fnExactNeg", fn := fun _ => fun
  | [d1, d2, d3] => { results := [.lit (.bool true)], args := [d1, d2, d3] }
  | _ => none }
def fnExactNegRow : OpenClaim := { program := "ytgeddjobgokfaaa", sum := "143cdcc2b82f1ae3fc3c34aa5c5d3c6d5c1b5694102f42c61e10fb6f34abd2e0", func := "loop.example/lib-g03408/laws.FnExactNeg", spec := "fnExactNeg", apart := false }
def FnExactNegSaid : Prop := fnExactNegRow.holds Try.pinned (OpenSpec.ofChange fnExactNegSpec)

/-- ITS FALSE NEIGHBOUR: 'it returns false'. Refute it at one input. -/
def fnExactNegWrong : ChangeSpec := { name := "fnExactNeg", fn := fun _ => fun
  | [d1, d2, d3] => { results := [.lit (.bool false)], args := [d1, d2, d3] }
  | _ => none }
def FnExactNegWrongFalsely : Prop := fnExactNegRow.holds Try.pinned (OpenSpec.ofChange fnExactNegWrong)

/-- 'laws.FnExactAbs': WHATEVER THE INPUT: true; the input reads as it did. -/
def fnExactAbsSpec : ChangeSpec := { name := "fnExactAbs", fn := fun _ => fun
  | [d1, d2, d3] => { results := [.lit (.bool true)], args := [d1, d2, d3] }
  | _ => none }
def fnExactAbsRow : OpenClaim := { program := "ytgeddjobgokfaaa", sum := "143cdcc2b82f1ae3fc3c34aa5c5d3c6d5c1b5694102f42c61e10fb6f34abd2e0", func := "loop.example/lib-g03408/laws.FnExactAbs", spec := "fnExactAbs", apart := false }
def FnExactAbsSaid : Prop := fnExactAbsRow.holds Try.pinned (OpenSpec.ofChange fnExactAbsSpec)

/-- ITS FALSE NEIGHBOUR: 'it returns false'. Refute it at one input. -/
def fnExactAbsWrong : ChangeSpec := { name := "fnExactAbs", fn := fun _ => fun
  | [d1, d2, d3] => { results := [.lit (.bool false)], args := [d1, d2, d3] }
  | _ => none }
def FnExactAbsWrongFalsely : Prop := fnExactAbsRow.holds Try.pinned (OpenSpec.ofChange fnExactAbsWrong)

/-- 'laws.FnCmpOrder': WHATEVER THE INPUT: true; the input reads as it did. -/
def fnCmpOrderSpec : ChangeSpec := { name := "fnCmpOrder", fn := fun _ => fun
  | [d1, d2, d3] => { results := [.lit (.bool true)], args := [d1, d2, d3] }
  | _ => none }
def fnCmpOrderRow : OpenClaim := { program := "ytgeddjobgokfaaa", sum := "143cdcc2b82f1ae3fc3c34aa5c5d3c6d5c1b5694102f42c61e10fb6f34abd2e0", func := "loop.example/lib-g03408/laws.FnCmpOrder", spec := "fnCmpOrder", apart := false }
def FnCmpOrderSaid : Prop := fnCmpOrderRow.holds Try.pinned (OpenSpec.ofChange fnCmpOrderSpec)

/-- ITS FALSE NEIGHBOUR: 'it returns false'. Refute it at one input. -/
def fnCmpOrderWrong : ChangeSpec := { name := "fnCmpOrder", fn := fun _ => fun
  | [d1, d2, d3] => { results := [.lit (.bool false)], args := [d1, d2, d3] }
  | _ => none }
def FnCmpOrderWrongFalsely : Prop := fnCmpOrderRow.holds Try.pinned (OpenSpec.ofChange fnCmpOrderWrong)

/-- 'laws.FnCmpTurns': WHATEVER THE INPUT: true; the input reads as it did. -/
def fnCmpTurnsSpec : ChangeSpec := { name := "fnCmpTurns", fn := fun _ => fun
  | [d1, d2] => { results := [.lit (.bool true)], args := [d1, d2] }
  | _ => none }
def fnCmpTurnsRow : OpenClaim := { program := "ytgeddjobgokfaaa", sum := "143cdcc2b82f1ae3fc3c34aa5c5d3c6d5c1b5694102f42c61e10fb6f34abd2e0", func := "loop.example/lib-g03408/laws.FnCmpTurns", spec := "fnCmpTurns", apart := false }
def FnCmpTurnsSaid : Prop := fnCmpTurnsRow.holds Try.pinned (OpenSpec.ofChange fnCmpTurnsSpec)

/-- ITS FALSE NEIGHBOUR: 'it returns false'. Refute it at one input. -/
def fnCmpTurnsWrong : ChangeSpec := { name := "fnCmpTurns", fn := fun _ => fun
  | [d1, d2] => { results := [.lit (.bool false)], args := [d1, d2] }
  | _ => none }
def FnCmpTurnsWrongFalsely : Prop := fnCmpTurnsRow.holds Try.pinned (OpenSpec.ofChange fnCmpTurnsWrong)

/-- 'laws.FnExactCmp': WHATEVER THE INPUT: true; the input reads as it did. -/
def fnExactCmpSpec : ChangeSpec := { name := "fnExactCmp", fn := fun _ => fun
  | [d1, d2] => { results := [.lit (.bool true)], args := [d1, d2] }
  | _ => none }
def fnExactCmpRow : OpenClaim := { program := "ytgeddjobgokfaaa", sum := "143cdcc2b82f1ae3fc3c34aa5c5d3c6d5c1b5694102f42c61e10fb6f34abd2e0", func := "loop.example/lib-g03408/laws.FnExactCmp", spec := "fnExactCmp", apart := false }
def FnExactCmpSaid : Prop := fnExactCmpRow.holds Try.pinned (OpenSpec.ofChange fnExactCmpSpec)

/-- ITS FALSE NEIGHBOUR: 'it returns false'. Refute it at one input. -/
def fnExactCmpWrong : ChangeSpec := { name := "fnExactCmp", fn := fun _ => fun
  | [d1, d2] => { results := [.lit (.bool false)], args := [d1, d2] }
  | _ => none }
def FnExactCmpWrongFalsely : Prop := fnExactCmpRow.holds Try.pinned (OpenSpec.ofChange fnExactCmpWrong)

/-- 'laws.FnWordsRound': WHATEVER THE INPUT: true; the input reads as it did. -/
def fnWordsRoundSpec : ChangeSpec := { name := "fnWordsRound", fn := fun _ => fun
  | [d] => { results := [.lit (.bool true)], args := [d] }
  | _ => none }
def fnWordsRoundRow : OpenClaim := { program := "ytgeddjobgokfaaa", sum := "143cdcc2b82f1ae3fc3c34aa5c5d3c6d5c1b5694102f42c61e10fb6f34abd2e0", func := "loop.example/lib-g03408/laws.FnWordsRound", spec := "fnWordsRound", apart := false }
def FnWordsRoundSaid : Prop := fnWordsRoundRow.holds Try.pinned (OpenSpec.ofChange fnWordsRoundSpec)

/-- ITS FALSE NEIGHBOUR: 'it returns false'. Refute it at one input. -/
def fnWordsRoundWrong : ChangeSpec := { name := "fnWordsRound", fn := fun _ => fun
  | [d] => { results := [.lit (.bool false)], args := [d] }
  | _ => none }
def FnWordsRoundWrongFalsely : Prop := fnWordsRoundRow.holds Try.pinned (OpenSpec.ofChange fnWordsRoundWrong)

/-- 'laws.FnInt64Order': WHATEVER THE INPUT: true; the input reads as it did. -/
def fnInt64OrderSpec : ChangeSpec := { name := "fnInt64Order", fn := fun _ => fun
  | [d1, d2] => { results := [.lit (.bool true)], args := [d1, d2] }
  | _ => none }
def fnInt64OrderRow : OpenClaim := { program := "ytgeddjobgokfaaa", sum := "143cdcc2b82f1ae3fc3c34aa5c5d3c6d5c1b5694102f42c61e10fb6f34abd2e0", func := "loop.example/lib-g03408/laws.FnInt64Order", spec := "fnInt64Order", apart := false }
def FnInt64OrderSaid : Prop := fnInt64OrderRow.holds Try.pinned (OpenSpec.ofChange fnInt64OrderSpec)

/-- ITS FALSE NEIGHBOUR: 'it returns false'. Refute it at one input. -/
def fnInt64OrderWrong : ChangeSpec := { name := "fnInt64Order", fn := fun _ => fun
  | [d1, d2] => { results := [.lit (.bool false)], args := [d1, d2] }
  | _ => none }
def FnInt64OrderWrongFalsely : Prop := fnInt64OrderRow.holds Try.pinned (OpenSpec.ofChange fnInt64OrderWrong)

/-- 'laws.FnInt64Round': WHATEVER THE INPUT: true; the input reads as it did. -/
def fnInt64RoundSpec : ChangeSpec := { name := "fnInt64Round", fn := fun _ => fun
  | [d] => { results := [.lit (.bool true)], args := [d] }
  | _ => none }
def fnInt64RoundRow : OpenClaim := { program := "ytgeddjobgokfaaa", sum := "143cdcc2b82f1ae3fc3c34aa5c5d3c6d5c1b5694102f42c61e10fb6f34abd2e0", func := "loop.example/lib-g03408/laws.FnInt64Round", spec := "fnInt64Round", apart := false }
def FnInt64RoundSaid : Prop := fnInt64RoundRow.holds Try.pinned (OpenSpec.ofChange fnInt64RoundSpec)

/-- ITS FALSE NEIGHBOUR: 'it returns false'. Refute it at one input. -/
def fnInt64RoundWrong : ChangeSpec := { name := "fnInt64Round", fn := fun _ => fun
  | [d] => { results := [.lit (.bool false)], args := [d] }
  | _ => none }
def FnInt64RoundWrongFalsely : Prop := fnInt64RoundRow.holds Try.pinned (OpenSpec.ofChange fnInt64RoundWrong)

/-- 'laws.FnSigns': WHATEVER THE INPUT: true; the input reads as it did. -/
def fnSignsSpec : ChangeSpec := { name := "fnSigns", fn := fun _ => fun
  | [d] => { results := [.lit (.bool true)], args := [d] }
  | _ => none }
def fnSignsRow : OpenClaim := { program := "ytgeddjobgokfaaa", sum := "143cdcc2b82f1ae3fc3c34aa5c5d3c6d5c1b5694102f42c61e10fb6f34abd2e0", func := "loop.example/lib-g03408/laws.FnSigns", spec := "fnSigns", apart := false }
def FnSignsSaid : Prop := fnSignsRow.holds Try.pinned (OpenSpec.ofChange fnSignsSpec)

/-- ITS FALSE NEIGHBOUR: 'it returns false'. Refute it at one input. -/
def fnSignsWrong : ChangeSpec := { name := "fnSigns", fn := fun _ => fun
  | [d] => { results := [.lit (.bool false)], args := [d] }
  | _ => none }
def FnSignsWrongFalsely : Prop := fnSignsRow.holds Try.pinned (OpenSpec.ofChange fnSignsWrong)

/-- 'laws.FnUint64Round': WHATEVER THE INPUT: true; the input reads as it did. -/
def fnUint64RoundSpec : ChangeSpec := { name := "fnUint64Round", fn := fun _ => fun
  | [d] => { results := [.lit (.bool true)], args := [d] }
  | _ => none }
def fnUint64RoundRow : OpenClaim := { program := "ytgeddjobgokfaaa", sum := "143cdcc2b82f1ae3fc3c34aa5c5d3c6d5c1b5694102f42c61e10fb6f34abd2e0", func := "loop.example/lib-g03408/laws.FnUint64Round", spec := "fnUint64Round", apart := false }
def FnUint64RoundSaid : Prop := fnUint64RoundRow.holds Try.pinned (OpenSpec.ofChange fnUint64RoundSpec)

/-- ITS FALSE NEIGHBOUR: 'it returns false'. Refute it at one input. -/
def fnUint64RoundWrong : ChangeSpec := { name := "fnUint64Round", fn := fun _ => fun
  | [d] => { results := [.lit (.bool false)], args := [d] }
  | _ => none }
def FnUint64RoundWrongFalsely : Prop := fnUint64RoundRow.holds Try.pinned (OpenSpec.ofChange fnUint64RoundWrong)

/-- 'laws.FnUint64Order': WHATEVER THE INPUT: true; the input reads as it did. -/
def fnUint64OrderSpec : ChangeSpec := { name := "fnUint64Order", fn := fun _ => fun
  | [d1, d2] => { results := [.lit (.bool true)], args := [d1, d2] }
  | _ => none }
def fnUint64OrderRow : OpenClaim := { program := "ytgeddjobgokfaaa", sum := "143cdcc2b82f1ae3fc3c34aa5c5d3c6d5c1b5694102f42c61e10fb6f34abd2e0", func := "loop.example/lib-g03408/laws.FnUint64Order", spec := "fnUint64Order", apart := false }
def FnUint64OrderSaid : Prop := fnUint64OrderRow.holds Try.pinned (OpenSpec.ofChange fnUint64OrderSpec)

/-- ITS FALSE NEIGHBOUR: 'it returns false'. Refute it at one input. -/
def fnUint64OrderWrong : ChangeSpec := { name := "fnUint64Order", fn := fun _ => fun
  | [d1, d2] => { results := [.lit (.bool false)], args := [d1, d2] }
  | _ => none }
def FnUint64OrderWrongFalsely : Prop := fnUint64OrderRow.holds Try.pinned (OpenSpec.ofChange fnUint64OrderWrong)

/-- 'laws.FnCmpAbs': WHATEVER THE INPUT: true; the input reads as it did. -/
def fnCmpAbsSpec : ChangeSpec := { name := "fnCmpAbs", fn := fun _ => fun
  | [d1, d2] => { results := [.lit (.bool true)], args := [d1, d2] }
  | _ => none }
def fnCmpAbsRow : OpenClaim := { program := "ytgeddjobgokfaaa", sum := "143cdcc2b82f1ae3fc3c34aa5c5d3c6d5c1b5694102f42c61e10fb6f34abd2e0", func := "loop.example/lib-g03408/laws.FnCmpAbs", spec := "fnCmpAbs", apart := false }
def FnCmpAbsSaid : Prop := fnCmpAbsRow.holds Try.pinned (OpenSpec.ofChange fnCmpAbsSpec)

/-- ITS FALSE NEIGHBOUR: 'it returns false'. Refute it at one input. -/
def fnCmpAbsWrong : ChangeSpec := { name := "fnCmpAbs", fn := fun _ => fun
  | [d1, d2] => { results := [.lit (.bool false)], args := [d1, d2] }
  | _ => none }
def FnCmpAbsWrongFalsely : Prop := fnCmpAbsRow.holds Try.pinned (OpenSpec.ofChange fnCmpAbsWrong)

/- THE SECOND FORM. 'bulk': how many values and letters a reading holds, each counted each time it is reached (what is shared counts as often as it is met; a slice's spare places count too). A statement '..UptoSaid' is the law's where the arguments, and the package variables that the reading takes, are together of bulk at most 1048576: NARROWER than '..Said'. Prove '..Said' where nothing that the law and all that it calls make is longer than what came in: it says more and counts as full. Else prove '..UptoSaid'. A law counts once. -/
mutual
def uptoBulk {H : Type} : DataW H → Nat
  | .lit (.string bytes) => bytes.length + 1
  | .lit _ => 1
  | .nil => 1
  | .ptr d => uptoBulk d + 1
  | .slice elems spare => uptoBulkAll elems + uptoBulkAll spare + 1
  | .agg parts => uptoBulkAll parts + 1
  | .iface _ d => uptoBulk d + 1
  | .map entries => uptoBulkEntries entries + 1
  | .held _ => 1
def uptoBulkAll {H : Type} : List (DataW H) → Nat
  | [] => 0
  | d :: r => uptoBulk d + uptoBulkAll r
def uptoBulkEntries {H : Type} : List (Lit × DataW H) → Nat
  | [] => 0
  | x :: r => uptoBulkEntry x + uptoBulkEntries r
def uptoBulkEntry {H : Type} : Lit × DataW H → Nat
  | (.string bytes, d) => bytes.length + uptoBulk d + 1
  | (_, d) => uptoBulk d + 1
 end
def uptoSmall : (H : Type) → List (DataW H) → Bool := fun _ ds => decide (uptoBulkAll ds ≤ 1048576)
def OpenSpec.upto (s : _root_.Go.ChangeSpec) : _root_.Go.OpenSpec := { _root_.Go.OpenSpec.ofChange s with cond := some uptoSmall }

/-- 'laws.FnExactNeg', WHERE WHAT IT READS IS OF BULK AT MOST 1048576: true; the input reads as it did. -/
def fnExactNegUptoRow : OpenClaim := { program := "ytgeddjobgokfaaa", sum := "143cdcc2b82f1ae3fc3c34aa5c5d3c6d5c1b5694102f42c61e10fb6f34abd2e0", func := "loop.example/lib-g03408/laws.FnExactNeg", spec := "fnExactNeg", apart := false, narrowed := true }
def FnExactNegUptoSaid : Prop := fnExactNegUptoRow.holds Try.pinned (OpenSpec.upto fnExactNegSpec)

/-- 'laws.FnExactAbs', WHERE WHAT IT READS IS OF BULK AT MOST 1048576: true; the input reads as it did. -/
def fnExactAbsUptoRow : OpenClaim := { program := "ytgeddjobgokfaaa", sum := "143cdcc2b82f1ae3fc3c34aa5c5d3c6d5c1b5694102f42c61e10fb6f34abd2e0", func := "loop.example/lib-g03408/laws.FnExactAbs", spec := "fnExactAbs", apart := false, narrowed := true }
def FnExactAbsUptoSaid : Prop := fnExactAbsUptoRow.holds Try.pinned (OpenSpec.upto fnExactAbsSpec)

/-- 'laws.FnCmpOrder', WHERE WHAT IT READS IS OF BULK AT MOST 1048576: true; the input reads as it did. -/
def fnCmpOrderUptoRow : OpenClaim := { program := "ytgeddjobgokfaaa", sum := "143cdcc2b82f1ae3fc3c34aa5c5d3c6d5c1b5694102f42c61e10fb6f34abd2e0", func := "loop.example/lib-g03408/laws.FnCmpOrder", spec := "fnCmpOrder", apart := false, narrowed := true }
def FnCmpOrderUptoSaid : Prop := fnCmpOrderUptoRow.holds Try.pinned (OpenSpec.upto fnCmpOrderSpec)

/-- 'laws.FnCmpTurns', WHERE WHAT IT READS IS OF BULK AT MOST 1048576: true; the input reads as it did. -/
def fnCmpTurnsUptoRow : OpenClaim := { program := "ytgeddjobgokfaaa", sum := "143cdcc2b82f1ae3fc3c34aa5c5d3c6d5c1b5694102f42c61e10fb6f34abd2e0", func := "loop.example/lib-g03408/laws.FnCmpTurns", spec := "fnCmpTurns", apart := false, narrowed := true }
def FnCmpTurnsUptoSaid : Prop := fnCmpTurnsUptoRow.holds Try.pinned (OpenSpec.upto fnCmpTurnsSpec)

/-- 'laws.FnExactCmp', WHERE WHAT IT READS IS OF BULK AT MOST 1048576: true; the input reads as it did. -/
def fnExactCmpUptoRow : OpenClaim := { program := "ytgeddjobgokfaaa", sum := "143cdcc2b82f1ae3fc3c34aa5c5d3c6d5c1b5694102f42c61e10fb6f34abd2e0", func := "loop.example/lib-g03408/laws.FnExactCmp", spec := "fnExactCmp", apart := false, narrowed := true }
def FnExactCmpUptoSaid : Prop := fnExactCmpUptoRow.holds Try.pinned (OpenSpec.upto fnExactCmpSpec)

/-- 'laws.FnWordsRound', WHERE WHAT IT READS IS OF BULK AT MOST 1048576: true; the input reads as it did. -/
def fnWordsRoundUptoRow : OpenClaim := { program := "ytgeddjobgokfaaa", sum := "143cdcc2b82f1ae3fc3c34aa5c5d3c6d5c1b5694102f42c61e10fb6f34abd2e0", func := "loop.example/lib-g03408/laws.FnWordsRound", spec := "fnWordsRound", apart := false, narrowed := true }
def FnWordsRoundUptoSaid : Prop := fnWordsRoundUptoRow.holds Try.pinned (OpenSpec.upto fnWordsRoundSpec)

/-- 'laws.FnInt64Order', WHERE WHAT IT READS IS OF BULK AT MOST 1048576: true; the input reads as it did. -/
def fnInt64OrderUptoRow : OpenClaim := { program := "ytgeddjobgokfaaa", sum := "143cdcc2b82f1ae3fc3c34aa5c5d3c6d5c1b5694102f42c61e10fb6f34abd2e0", func := "loop.example/lib-g03408/laws.FnInt64Order", spec := "fnInt64Order", apart := false, narrowed := true }
def FnInt64OrderUptoSaid : Prop := fnInt64OrderUptoRow.holds Try.pinned (OpenSpec.upto fnInt64OrderSpec)

/-- 'laws.FnInt64Round', WHERE WHAT IT READS IS OF BULK AT MOST 1048576: true; the input reads as it did. -/
def fnInt64RoundUptoRow : OpenClaim := { program := "ytgeddjobgokfaaa", sum := "143cdcc2b82f1ae3fc3c34aa5c5d3c6d5c1b5694102f42c61e10fb6f34abd2e0", func := "loop.example/lib-g03408/laws.FnInt64Round", spec := "fnInt64Round", apart := false, narrowed := true }
def FnInt64RoundUptoSaid : Prop := fnInt64RoundUptoRow.holds Try.pinned (OpenSpec.upto fnInt64RoundSpec)

/-- 'laws.FnSigns', WHERE WHAT IT READS IS OF BULK AT MOST 1048576: true; the input reads as it did. -/
def fnSignsUptoRow : OpenClaim := { program := "ytgeddjobgokfaaa", sum := "143cdcc2b82f1ae3fc3c34aa5c5d3c6d5c1b5694102f42c61e10fb6f34abd2e0", func := "loop.example/lib-g03408/laws.FnSigns", spec := "fnSigns", apart := false, narrowed := true }
def FnSignsUptoSaid : Prop := fnSignsUptoRow.holds Try.pinned (OpenSpec.upto fnSignsSpec)

/-- 'laws.FnUint64Round', WHERE WHAT IT READS IS OF BULK AT MOST 1048576: true; the input reads as it did. -/
def fnUint64RoundUptoRow : OpenClaim := { program := "ytgeddjobgokfaaa", sum := "143cdcc2b82f1ae3fc3c34aa5c5d3c6d5c1b5694102f42c61e10fb6f34abd2e0", func := "loop.example/lib-g03408/laws.FnUint64Round", spec := "fnUint64Round", apart := false, narrowed := true }
def FnUint64RoundUptoSaid : Prop := fnUint64RoundUptoRow.holds Try.pinned (OpenSpec.upto fnUint64RoundSpec)

/-- 'laws.FnUint64Order', WHERE WHAT IT READS IS OF BULK AT MOST 1048576: true; the input reads as it did. -/
def fnUint64OrderUptoRow : OpenClaim := { program := "ytgeddjobgokfaaa", sum := "143cdcc2b82f1ae3fc3c34aa5c5d3c6d5c1b5694102f42c61e10fb6f34abd2e0", func := "loop.example/lib-g03408/laws.FnUint64Order", spec := "fnUint64Order", apart := false, narrowed := true }
def FnUint64OrderUptoSaid : Prop := fnUint64OrderUptoRow.holds Try.pinned (OpenSpec.upto fnUint64OrderSpec)

/-- 'laws.FnCmpAbs', WHERE WHAT IT READS IS OF BULK AT MOST 1048576: true; the input reads as it did. -/
def fnCmpAbsUptoRow : OpenClaim := { program := "ytgeddjobgokfaaa", sum := "143cdcc2b82f1ae3fc3c34aa5c5d3c6d5c1b5694102f42c61e10fb6f34abd2e0", func := "loop.example/lib-g03408/laws.FnCmpAbs", spec := "fnCmpAbs", apart := false, narrowed := true }
def FnCmpAbsUptoSaid : Prop := fnCmpAbsUptoRow.holds Try.pinned (OpenSpec.upto fnCmpAbsSpec)

end Rows
end Go.Proofs.Ytgeddjobgokfaaa
