/-
  No cell of these rows narrows 'for every input' (looked for: loops, veiled, ifaces, maps, wideKeys, modest, calm, conditions, laid).
  DERIVED. THE GIVEN ROWS OF THIS SEAT. 12 by the template 'for every input the law returns true; each argument reads behind the call as it read before'; 0 by the template 'total and deterministic' (their statements: YtcdkaddgljafhaaTotals.lean).
  GIVEN WITH THE SEED: the statements are not yours to turn. If you find one false, say at which input.
  Laid BY PROGRAM, IN A SANDBOX (cutbox-rows.mjs): the forced cells as the released guide's own fill.sh prints them over the translation ce95c618a45640ee… (all of the seat's roots in one cut). By AI agents, Wed Nov 11 2026. No macro, syntax, notation, axiom, sorry.
-/
import Derived.Test.YtcdkaddgljafhaaChecked
import GoSem.Claim
import GoSem.ClaimJoined
import GoSem.ClaimMapViews
import Derived.JoinedTies
import Derived.KernelRfl
namespace Go.Proofs.Ytcdkaddgljafhaa
/- THE CELL 'sum', in the pinned program and in every row, IS THE sha256 OF THE DUMP (.gsa) THAT YtcdkaddgljafhaaProg.lean LOADS. Nothing in Lean hashes anything: it is a label: what it is worth is what the hold of that sum in a sandbox is worth. -/
noncomputable def Try.pinned : Pinned := { name := "ytcdkaddgljafhaa", sum := "ce95c618a45640eeb9d27ba2cabf77bccf49fb079d8361a7043cea198ab9d21b", checked := Try.checked }
namespace Rows
def none {H : Type} : Left H := { results := [], args := [] }

/-- 'laws.FnExactIsUint64': WHATEVER THE INPUT: true; the input reads as it did. -/
def fnExactIsUint64Spec : ChangeSpec := { name := "fnExactIsUint64", fn := fun _ => fun
  | [d] => { results := [.lit (.bool true)], args := [d] }
  | _ => none }
def fnExactIsUint64Row : OpenClaim := { program := "ytcdkaddgljafhaa", sum := "ce95c618a45640eeb9d27ba2cabf77bccf49fb079d8361a7043cea198ab9d21b", func := "loop.example/lib-g03408/laws.FnExactIsUint64", spec := "fnExactIsUint64", apart := false }
def FnExactIsUint64Said : Prop := fnExactIsUint64Row.holds Try.pinned (OpenSpec.ofChange fnExactIsUint64Spec)

/-- ITS FALSE NEIGHBOUR: 'it returns false'. Refute it at one input. -/
def fnExactIsUint64Wrong : ChangeSpec := { name := "fnExactIsUint64", fn := fun _ => fun
  | [d] => { results := [.lit (.bool false)], args := [d] }
  | _ => none }
def FnExactIsUint64WrongFalsely : Prop := fnExactIsUint64Row.holds Try.pinned (OpenSpec.ofChange fnExactIsUint64Wrong)

/-- 'laws.FnExactSetUint64': WHATEVER THE INPUT: true; the input reads as it did. -/
def fnExactSetUint64Spec : ChangeSpec := { name := "fnExactSetUint64", fn := fun _ => fun
  | [d] => { results := [.lit (.bool true)], args := [d] }
  | _ => none }
def fnExactSetUint64Row : OpenClaim := { program := "ytcdkaddgljafhaa", sum := "ce95c618a45640eeb9d27ba2cabf77bccf49fb079d8361a7043cea198ab9d21b", func := "loop.example/lib-g03408/laws.FnExactSetUint64", spec := "fnExactSetUint64", apart := false }
def FnExactSetUint64Said : Prop := fnExactSetUint64Row.holds Try.pinned (OpenSpec.ofChange fnExactSetUint64Spec)

/-- ITS FALSE NEIGHBOUR: 'it returns false'. Refute it at one input. -/
def fnExactSetUint64Wrong : ChangeSpec := { name := "fnExactSetUint64", fn := fun _ => fun
  | [d] => { results := [.lit (.bool false)], args := [d] }
  | _ => none }
def FnExactSetUint64WrongFalsely : Prop := fnExactSetUint64Row.holds Try.pinned (OpenSpec.ofChange fnExactSetUint64Wrong)

/-- 'laws.FnExactSign': WHATEVER THE INPUT: true; the input reads as it did. -/
def fnExactSignSpec : ChangeSpec := { name := "fnExactSign", fn := fun _ => fun
  | [d] => { results := [.lit (.bool true)], args := [d] }
  | _ => none }
def fnExactSignRow : OpenClaim := { program := "ytcdkaddgljafhaa", sum := "ce95c618a45640eeb9d27ba2cabf77bccf49fb079d8361a7043cea198ab9d21b", func := "loop.example/lib-g03408/laws.FnExactSign", spec := "fnExactSign", apart := false }
def FnExactSignSaid : Prop := fnExactSignRow.holds Try.pinned (OpenSpec.ofChange fnExactSignSpec)

/-- ITS FALSE NEIGHBOUR: 'it returns false'. Refute it at one input. -/
def fnExactSignWrong : ChangeSpec := { name := "fnExactSign", fn := fun _ => fun
  | [d] => { results := [.lit (.bool false)], args := [d] }
  | _ => none }
def FnExactSignWrongFalsely : Prop := fnExactSignRow.holds Try.pinned (OpenSpec.ofChange fnExactSignWrong)

/-- 'laws.FnExactUint64': WHATEVER THE INPUT: true; the input reads as it did. -/
def fnExactUint64Spec : ChangeSpec := { name := "fnExactUint64", fn := fun _ => fun
  | [d] => { results := [.lit (.bool true)], args := [d] }
  | _ => none }
def fnExactUint64Row : OpenClaim := { program := "ytcdkaddgljafhaa", sum := "ce95c618a45640eeb9d27ba2cabf77bccf49fb079d8361a7043cea198ab9d21b", func := "loop.example/lib-g03408/laws.FnExactUint64", spec := "fnExactUint64", apart := false }
def FnExactUint64Said : Prop := fnExactUint64Row.holds Try.pinned (OpenSpec.ofChange fnExactUint64Spec)

/-- ITS FALSE NEIGHBOUR: 'it returns false'. Refute it at one input. -/
def fnExactUint64Wrong : ChangeSpec := { name := "fnExactUint64", fn := fun _ => fun
  | [d] => { results := [.lit (.bool false)], args := [d] }
  | _ => none }
def FnExactUint64WrongFalsely : Prop := fnExactUint64Row.holds Try.pinned (OpenSpec.ofChange fnExactUint64Wrong)

/-- 'laws.FnExactInt64': WHATEVER THE INPUT: true; the input reads as it did. -/
def fnExactInt64Spec : ChangeSpec := { name := "fnExactInt64", fn := fun _ => fun
  | [d] => { results := [.lit (.bool true)], args := [d] }
  | _ => none }
def fnExactInt64Row : OpenClaim := { program := "ytcdkaddgljafhaa", sum := "ce95c618a45640eeb9d27ba2cabf77bccf49fb079d8361a7043cea198ab9d21b", func := "loop.example/lib-g03408/laws.FnExactInt64", spec := "fnExactInt64", apart := false }
def FnExactInt64Said : Prop := fnExactInt64Row.holds Try.pinned (OpenSpec.ofChange fnExactInt64Spec)

/-- ITS FALSE NEIGHBOUR: 'it returns false'. Refute it at one input. -/
def fnExactInt64Wrong : ChangeSpec := { name := "fnExactInt64", fn := fun _ => fun
  | [d] => { results := [.lit (.bool false)], args := [d] }
  | _ => none }
def FnExactInt64WrongFalsely : Prop := fnExactInt64Row.holds Try.pinned (OpenSpec.ofChange fnExactInt64Wrong)

/-- 'laws.FnExactIsInt64': WHATEVER THE INPUT: true; the input reads as it did. -/
def fnExactIsInt64Spec : ChangeSpec := { name := "fnExactIsInt64", fn := fun _ => fun
  | [d] => { results := [.lit (.bool true)], args := [d] }
  | _ => none }
def fnExactIsInt64Row : OpenClaim := { program := "ytcdkaddgljafhaa", sum := "ce95c618a45640eeb9d27ba2cabf77bccf49fb079d8361a7043cea198ab9d21b", func := "loop.example/lib-g03408/laws.FnExactIsInt64", spec := "fnExactIsInt64", apart := false }
def FnExactIsInt64Said : Prop := fnExactIsInt64Row.holds Try.pinned (OpenSpec.ofChange fnExactIsInt64Spec)

/-- ITS FALSE NEIGHBOUR: 'it returns false'. Refute it at one input. -/
def fnExactIsInt64Wrong : ChangeSpec := { name := "fnExactIsInt64", fn := fun _ => fun
  | [d] => { results := [.lit (.bool false)], args := [d] }
  | _ => none }
def FnExactIsInt64WrongFalsely : Prop := fnExactIsInt64Row.holds Try.pinned (OpenSpec.ofChange fnExactIsInt64Wrong)

/-- 'laws.FnExactBits': WHATEVER THE INPUT: true; the input reads as it did. -/
def fnExactBitsSpec : ChangeSpec := { name := "fnExactBits", fn := fun _ => fun
  | [d] => { results := [.lit (.bool true)], args := [d] }
  | _ => none }
def fnExactBitsRow : OpenClaim := { program := "ytcdkaddgljafhaa", sum := "ce95c618a45640eeb9d27ba2cabf77bccf49fb079d8361a7043cea198ab9d21b", func := "loop.example/lib-g03408/laws.FnExactBits", spec := "fnExactBits", apart := false }
def FnExactBitsSaid : Prop := fnExactBitsRow.holds Try.pinned (OpenSpec.ofChange fnExactBitsSpec)

/-- ITS FALSE NEIGHBOUR: 'it returns false'. Refute it at one input. -/
def fnExactBitsWrong : ChangeSpec := { name := "fnExactBits", fn := fun _ => fun
  | [d] => { results := [.lit (.bool false)], args := [d] }
  | _ => none }
def FnExactBitsWrongFalsely : Prop := fnExactBitsRow.holds Try.pinned (OpenSpec.ofChange fnExactBitsWrong)

/-- 'laws.FnExactSetBits': WHATEVER THE INPUT: true; the input reads as it did. -/
def fnExactSetBitsSpec : ChangeSpec := { name := "fnExactSetBits", fn := fun _ => fun
  | [d] => { results := [.lit (.bool true)], args := [d] }
  | _ => none }
def fnExactSetBitsRow : OpenClaim := { program := "ytcdkaddgljafhaa", sum := "ce95c618a45640eeb9d27ba2cabf77bccf49fb079d8361a7043cea198ab9d21b", func := "loop.example/lib-g03408/laws.FnExactSetBits", spec := "fnExactSetBits", apart := false }
def FnExactSetBitsSaid : Prop := fnExactSetBitsRow.holds Try.pinned (OpenSpec.ofChange fnExactSetBitsSpec)

/-- ITS FALSE NEIGHBOUR: 'it returns false'. Refute it at one input. -/
def fnExactSetBitsWrong : ChangeSpec := { name := "fnExactSetBits", fn := fun _ => fun
  | [d] => { results := [.lit (.bool false)], args := [d] }
  | _ => none }
def FnExactSetBitsWrongFalsely : Prop := fnExactSetBitsRow.holds Try.pinned (OpenSpec.ofChange fnExactSetBitsWrong)

/-- 'laws.FnExactCmpAbs': WHATEVER THE INPUT: true; the input reads as it did. -/
def fnExactCmpAbsSpec : ChangeSpec := { name := "fnExactCmpAbs", fn := fun _ => fun
  | [d1, d2] => { results := [.lit (.bool true)], args := [d1, d2] }
  | _ => none }
def fnExactCmpAbsRow : OpenClaim := { program := "ytcdkaddgljafhaa", sum := "ce95c618a45640eeb9d27ba2cabf77bccf49fb079d8361a7043cea198ab9d21b", func := "loop.example/lib-g03408/laws.FnExactCmpAbs", spec := "fnExactCmpAbs", apart := false }
def FnExactCmpAbsSaid : Prop := fnExactCmpAbsRow.holds Try.pinned (OpenSpec.ofChange fnExactCmpAbsSpec)

/-- ITS FALSE NEIGHBOUR: 'it returns false'. Refute it at one input. -/
def fnExactCmpAbsWrong : ChangeSpec := { name := "fnExactCmpAbs", fn := fun _ => fun
  | [d1, d2] => { results := [.lit (.bool false)], args := [d1, d2] }
  | _ => none }
def FnExactCmpAbsWrongFalsely : Prop := fnExactCmpAbsRow.holds Try.pinned (OpenSpec.ofChange fnExactCmpAbsWrong)

/-- 'laws.FnExactSetBytes': WHATEVER THE INPUT: true; the input reads as it did. -/
def fnExactSetBytesSpec : ChangeSpec := { name := "fnExactSetBytes", fn := fun _ => fun
  | [d] => { results := [.lit (.bool true)], args := [d] }
  | _ => none }
def fnExactSetBytesRow : OpenClaim := { program := "ytcdkaddgljafhaa", sum := "ce95c618a45640eeb9d27ba2cabf77bccf49fb079d8361a7043cea198ab9d21b", func := "loop.example/lib-g03408/laws.FnExactSetBytes", spec := "fnExactSetBytes", apart := false }
def FnExactSetBytesSaid : Prop := fnExactSetBytesRow.holds Try.pinned (OpenSpec.ofChange fnExactSetBytesSpec)

/-- ITS FALSE NEIGHBOUR: 'it returns false'. Refute it at one input. -/
def fnExactSetBytesWrong : ChangeSpec := { name := "fnExactSetBytes", fn := fun _ => fun
  | [d] => { results := [.lit (.bool false)], args := [d] }
  | _ => none }
def FnExactSetBytesWrongFalsely : Prop := fnExactSetBytesRow.holds Try.pinned (OpenSpec.ofChange fnExactSetBytesWrong)

/-- 'laws.FnBytesShort': WHATEVER THE INPUT: true; the input reads as it did. -/
def fnBytesShortSpec : ChangeSpec := { name := "fnBytesShort", fn := fun _ => fun
  | [d] => { results := [.lit (.bool true)], args := [d] }
  | _ => none }
def fnBytesShortRow : OpenClaim := { program := "ytcdkaddgljafhaa", sum := "ce95c618a45640eeb9d27ba2cabf77bccf49fb079d8361a7043cea198ab9d21b", func := "loop.example/lib-g03408/laws.FnBytesShort", spec := "fnBytesShort", apart := false }
def FnBytesShortSaid : Prop := fnBytesShortRow.holds Try.pinned (OpenSpec.ofChange fnBytesShortSpec)

/-- ITS FALSE NEIGHBOUR: 'it returns false'. Refute it at one input. -/
def fnBytesShortWrong : ChangeSpec := { name := "fnBytesShort", fn := fun _ => fun
  | [d] => { results := [.lit (.bool false)], args := [d] }
  | _ => none }
def FnBytesShortWrongFalsely : Prop := fnBytesShortRow.holds Try.pinned (OpenSpec.ofChange fnBytesShortWrong)

/-- 'laws.FnExactBytes': WHATEVER THE INPUT: true; the input reads as it did. -/
def fnExactBytesSpec : ChangeSpec := { name := "fnExactBytes", fn := fun _ => fun
  | [d] => { results := [.lit (.bool true)], args := [d] }
  | _ => none }
def fnExactBytesRow : OpenClaim := { program := "ytcdkaddgljafhaa", sum := "ce95c618a45640eeb9d27ba2cabf77bccf49fb079d8361a7043cea198ab9d21b", func := "loop.example/lib-g03408/laws.FnExactBytes", spec := "fnExactBytes", apart := false }
def FnExactBytesSaid : Prop := fnExactBytesRow.holds Try.pinned (OpenSpec.ofChange fnExactBytesSpec)

/-- ITS FALSE NEIGHBOUR: 'it returns false'. Refute it at one input. -/
def fnExactBytesWrong : ChangeSpec := { name := "fnExactBytes", fn := fun _ => fun
  | [d] => { results := [.lit (.bool false)], args := [d] }
  | _ => none }
def FnExactBytesWrongFalsely : Prop := fnExactBytesRow.holds Try.pinned (OpenSpec.ofChange fnExactBytesWrong)

/- THE SECOND FORM. 'bulk': how many values and letters a reading holds, each counted each time it is reached (what is shared counts as often as it is met; a slice's spare places count too). A statement '..UptoSaid' is the law's where the arguments, and the package variables that the reading takes, are together of bulk at most 1048576: NARROWER than '..Said'. Prove '..Said' where nothing that the law and all that it calls make is longer than what came in: it says more and counts as full. Else prove '..UptoSaid'. A law counts once. -/
mutual
def uptoBulk {H : Type} : DataW H → Nat
  | .lit (.string bytes) => bytes.length + 1
  | .lit _ => 1
  | .nil => 1
  | .ptr d => uptoBulk d + 1
  | .slice elems spare => uptoBulkAll elems + uptoBulkAll spare + 1
  | .agg parts => uptoBulkAll parts + 1
  | .iface _ d => uptoBulk d + 1
  | .map entries => uptoBulkEntries entries + 1
  | .held _ => 1
def uptoBulkAll {H : Type} : List (DataW H) → Nat
  | [] => 0
  | d :: r => uptoBulk d + uptoBulkAll r
def uptoBulkEntries {H : Type} : List (Lit × DataW H) → Nat
  | [] => 0
  | x :: r => uptoBulkEntry x + uptoBulkEntries r
def uptoBulkEntry {H : Type} : Lit × DataW H → Nat
  | (.string bytes, d) => bytes.length + uptoBulk d + 1
  | (_, d) => uptoBulk d + 1
 end
def uptoSmall : (H : Type) → List (DataW H) → Bool := fun _ ds => decide (uptoBulkAll ds ≤ 1048576)
def OpenSpec.upto (s : _root_.Go.ChangeSpec) : _root_.Go.OpenSpec := { _root_.Go.OpenSpec.ofChange s with cond := some uptoSmall }

/-- 'laws.FnExactIsUint64', WHERE WHAT IT READS IS OF BULK AT MOST 1048576: true; the input reads as it did. -/
def fnExactIsUint64UptoRow : OpenClaim := { program := "ytcdkaddgljafhaa", sum := "ce95c618a45640eeb9d27ba2cabf77bccf49fb079d8361a7043cea198ab9d21b", func := "loop.example/lib-g03408/laws.FnExactIsUint64", spec := "fnExactIsUint64", apart := false, narrowed := true }
def FnExactIsUint64UptoSaid : Prop := fnExactIsUint64UptoRow.holds Try.pinned (OpenSpec.upto fnExactIsUint64Spec)

/-- 'laws.FnExactSetUint64', WHERE WHAT IT READS IS OF BULK AT MOST 1048576: true; the input reads as it did. -/
def fnExactSetUint64UptoRow : OpenClaim := { program := "ytcdkaddgljafhaa", sum := "ce95c618a45640eeb9d27ba2cabf77bccf49fb079d8361a7043cea198ab9d21b", func := "loop.example/lib-g03408/laws.FnExactSetUint64", spec := "fnExactSetUint64", apart := false, narrowed := true }
def FnExactSetUint64UptoSaid : Prop := fnExactSetUint64UptoRow.holds Try.pinned (OpenSpec.upto fnExactSetUint64Spec)

/-- 'laws.FnExactSign', WHERE WHAT IT READS IS OF BULK AT MOST 1048576: true; the input reads as it did. -/
def fnExactSignUptoRow : OpenClaim := { program := "ytcdkaddgljafhaa", sum := "ce95c618a45640eeb9d27ba2cabf77bccf49fb079d8361a7043cea198ab9d21b", func := "loop.example/lib-g03408/laws.FnExactSign", spec := "fnExactSign", apart := false, narrowed := true }
def FnExactSignUptoSaid : Prop := fnExactSignUptoRow.holds Try.pinned (OpenSpec.upto fnExactSignSpec)

/-- 'laws.FnExactUint64', WHERE WHAT IT READS IS OF BULK AT MOST 1048576: true; the input reads as it did. -/
def fnExactUint64UptoRow : OpenClaim := { program := "ytcdkaddgljafhaa", sum := "ce95c618a45640eeb9d27ba2cabf77bccf49fb079d8361a7043cea198ab9d21b", func := "loop.example/lib-g03408/laws.FnExactUint64", spec := "fnExactUint64", apart := false, narrowed := true }
def FnExactUint64UptoSaid : Prop := fnExactUint64UptoRow.holds Try.pinned (OpenSpec.upto fnExactUint64Spec)

/-- 'laws.FnExactInt64', WHERE WHAT IT READS IS OF BULK AT MOST 1048576: true; the input reads as it did. -/
def fnExactInt64UptoRow : OpenClaim := { program := "ytcdkaddgljafhaa", sum := "ce95c618a45640eeb9d27ba2cabf77bccf49fb079d8361a7043cea198ab9d21b", func := "loop.example/lib-g03408/laws.FnExactInt64", spec := "fnExactInt64", apart := false, narrowed := true }
def FnExactInt64UptoSaid : Prop := fnExactInt64UptoRow.holds Try.pinned (OpenSpec.upto fnExactInt64Spec)

/-- 'laws.FnExactIsInt64', WHERE WHAT IT READS IS OF BULK AT MOST 1048576: true; the input reads as it did. -/
def fnExactIsInt64UptoRow : OpenClaim := { program := "ytcdkaddgljafhaa", sum := "ce95c618a45640eeb9d27ba2cabf77bccf49fb079d8361a7043cea198ab9d21b", func := "loop.example/lib-g03408/laws.FnExactIsInt64", spec := "fnExactIsInt64", apart := false, narrowed := true }
def FnExactIsInt64UptoSaid : Prop := fnExactIsInt64UptoRow.holds Try.pinned (OpenSpec.upto fnExactIsInt64Spec)

/-- 'laws.FnExactBits', WHERE WHAT IT READS IS OF BULK AT MOST 1048576: true; the input reads as it did. -/
def fnExactBitsUptoRow : OpenClaim := { program := "ytcdkaddgljafhaa", sum := "ce95c618a45640eeb9d27ba2cabf77bccf49fb079d8361a7043cea198ab9d21b", func := "loop.example/lib-g03408/laws.FnExactBits", spec := "fnExactBits", apart := false, narrowed := true }
def FnExactBitsUptoSaid : Prop := fnExactBitsUptoRow.holds Try.pinned (OpenSpec.upto fnExactBitsSpec)

/-- 'laws.FnExactSetBits', WHERE WHAT IT READS IS OF BULK AT MOST 1048576: true; the input reads as it did. -/
def fnExactSetBitsUptoRow : OpenClaim := { program := "ytcdkaddgljafhaa", sum := "ce95c618a45640eeb9d27ba2cabf77bccf49fb079d8361a7043cea198ab9d21b", func := "loop.example/lib-g03408/laws.FnExactSetBits", spec := "fnExactSetBits", apart := false, narrowed := true }
def FnExactSetBitsUptoSaid : Prop := fnExactSetBitsUptoRow.holds Try.pinned (OpenSpec.upto fnExactSetBitsSpec)

/-- 'laws.FnExactCmpAbs', WHERE WHAT IT READS IS OF BULK AT MOST 1048576: true; the input reads as it did. -/
def fnExactCmpAbsUptoRow : OpenClaim := { program := "ytcdkaddgljafhaa", sum := "ce95c618a45640eeb9d27ba2cabf77bccf49fb079d8361a7043cea198ab9d21b", func := "loop.example/lib-g03408/laws.FnExactCmpAbs", spec := "fnExactCmpAbs", apart := false, narrowed := true }
def FnExactCmpAbsUptoSaid : Prop := fnExactCmpAbsUptoRow.holds Try.pinned (OpenSpec.upto fnExactCmpAbsSpec)

/-- 'laws.FnExactSetBytes', WHERE WHAT IT READS IS OF BULK AT MOST 1048576: true; the input reads as it did. -/
def fnExactSetBytesUptoRow : OpenClaim := { program := "ytcdkaddgljafhaa", sum := "ce95c618a45640eeb9d27ba2cabf77bccf49fb079d8361a7043cea198ab9d21b", func := "loop.example/lib-g03408/laws.FnExactSetBytes", spec := "fnExactSetBytes", apart := false, narrowed := true }
def FnExactSetBytesUptoSaid : Prop := fnExactSetBytesUptoRow.holds Try.pinned (OpenSpec.upto fnExactSetBytesSpec)

/-- 'laws.FnBytesShort', WHERE WHAT IT READS IS OF BULK AT MOST 1048576: true; the input reads as it did. -/
def fnBytesShortUptoRow : OpenClaim := { program := "ytcdkaddgljafhaa", sum := "ce95c618a45640eeb9d27ba2cabf77bccf49fb079d8361a7043cea198ab9d21b", func := "loop.example/lib-g03408/laws.FnBytesShort", spec := "fnBytesShort", apart := false, narrowed := true }
def FnBytesShortUptoSaid : Prop := fnBytesShortUptoRow.holds Try.pinned (OpenSpec.upto fnBytesShortSpec)

/-- 'laws.FnExactBytes', WHERE WHAT IT READS IS OF BULK AT MOST 1048576: true; the input reads as it did. -/
def fnExactBytesUptoRow : OpenClaim := { program := "ytcdkaddgljafhaa", sum := "ce95c618a45640eeb9d27ba2cabf77bccf49fb079d8361a7043cea198ab9d21b", func := "loop.example/lib-g03408/laws.FnExactBytes", spec := "fnExactBytes", apart := false, narrowed := true }
def FnExactBytesUptoSaid : Prop := fnExactBytesUptoRow.holds Try.pinned (OpenSpec.upto fnExactBytesSpec)

end Rows
end Go.Proofs.Ytcdkaddgljafhaa
