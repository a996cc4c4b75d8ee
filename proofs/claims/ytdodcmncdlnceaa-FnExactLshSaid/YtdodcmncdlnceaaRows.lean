/-
  No cell of these rows narrows 'for every input' (looked for: loops, veiled, ifaces, maps, wideKeys, modest, calm, conditions, laid).
  DERIVED. THE GIVEN ROWS OF THIS SEAT. 9 by the template 'for every input the law returns true; each argument reads behind the call as it read before'; 0 by the template 'total and deterministic' (their statements: YtdodcmncdlnceaaTotals.lean).
  GIVEN WITH THE SEED: the statements are not yours to turn. If you find one false, say at which input.
  Laid BY PROGRAM, IN A SANDBOX (cutbox-rows.mjs): the forced cells as the released guide's own fill.sh prints them over the translation a78f3e5936301983… (all of the seat's roots in one cut). By AI agents, Wed Nov 11 2026. No macro, syntax, notation, axiom, sorry.
-/
import Derived.Test.YtdodcmncdlnceaaChecked
import GoSem.Claim
import GoSem.ClaimJoined
import GoSem.ClaimMapViews
import Derived.JoinedTies
import Derived.KernelRfl
namespace Go.Proofs.Ytdodcmncdlnceaa
/- THE CELL 'sum', in the pinned program and in every row, IS THE sha256 OF THE DUMP (.gsa) THAT YtdodcmncdlnceaaProg.lean LOADS. Nothing in Lean hashes anything: it is a label: what it is worth is what the hold of that sum in a sandbox is worth. -/
noncomputable def Try.pinned : Pinned := { name := "ytdodcmncdlnceaa", sum := "a78f3e59363019833364fdf3c9b04dc1910dfc69545dd13dfb27301a594dbcee", checked := Try.checked }
namespace Rows
def none {H : Type} : Left H := { results := [], args := [] }

/-- 'laws.FnExactBitLen': WHATEVER THE INPUT: true; the input reads as it did. -/
def fnExactBitLenSpec : ChangeSpec := { name := "fnExactBitLen", fn := fun _ => fun
  | [d] => { results := [.lit (.bool true)], args := [d] }
  | _ => none }
def fnExactBitLenRow : OpenClaim := { program := "ytdodcmncdlnceaa", sum := "a78f3e59363019833364fdf3c9b04dc1910dfc69545dd13dfb27301a594dbcee", func := "loop.example/lib-g03408/laws.FnExactBitLen", spec := "fnExactBitLen", apart := false }
def FnExactBitLenSaid : Prop := fnExactBitLenRow.holds Try.pinned (OpenSpec.ofChange fnExactBitLenSpec)

/-- ITS FALSE NEIGHBOUR: 'it returns false'. Refute it at one input. -/
def fnExactBitLenWrong : ChangeSpec := { name := "fnExactBitLen", fn := fun _ => fun
  | [d] => { results := [.lit (.bool false)], args := [d] }
  | _ => none }
def FnExactBitLenWrongFalsely : Prop := fnExactBitLenRow.holds Try.pinned (OpenSpec.ofChange fnExactBitLenWrong)

/-- 'laws.FnExactLsh': WHATEVER THE INPUT: true; the input reads as it did. -/
def fnExactLshSpec : ChangeSpec := { name := "fnExactLsh", fn := fun _ => fun
  | [d1, d2, d3, d4] => { results := [.lit (.bool true)], args := [d1, d2, d3, d4] }
  | _ => none }
def fnExactLshRow : OpenClaim := { program := "ytdodcmncdlnceaa", sum := "a78f3e59363019833364fdf3c9b04dc1910dfc69545dd13dfb27301a594dbcee", func := "loop.example/lib-g03408/laws.FnExactLsh", spec := "fnExactLsh", inPlace := ["math/big.lshVU"], apart := false }
def FnExactLshSaid : Prop := fnExactLshRow.holds Try.pinned (OpenSpec.ofChange fnExactLshSpec)

/-- ITS FALSE NEIGHBOUR: 'it returns false'. Refute it at one input. -/
def fnExactLshWrong : ChangeSpec := { name := "fnExactLsh", fn := fun _ => fun
  | [d1, d2, d3, d4] => { results := [.lit (.bool false)], args := [d1, d2, d3, d4] }
  | _ => none }
def FnExactLshWrongFalsely : Prop := fnExactLshRow.holds Try.pinned (OpenSpec.ofChange fnExactLshWrong)

/-- 'laws.FnLshZero': WHATEVER THE INPUT: true; the input reads as it did. -/
def fnLshZeroSpec : ChangeSpec := { name := "fnLshZero", fn := fun _ => fun
  | [d1, d2, d3] => { results := [.lit (.bool true)], args := [d1, d2, d3] }
  | _ => none }
def fnLshZeroRow : OpenClaim := { program := "ytdodcmncdlnceaa", sum := "a78f3e59363019833364fdf3c9b04dc1910dfc69545dd13dfb27301a594dbcee", func := "loop.example/lib-g03408/laws.FnLshZero", spec := "fnLshZero", inPlace := ["math/big.lshVU"], apart := false }
def FnLshZeroSaid : Prop := fnLshZeroRow.holds Try.pinned (OpenSpec.ofChange fnLshZeroSpec)

/-- ITS FALSE NEIGHBOUR: 'it returns false'. Refute it at one input. -/
def fnLshZeroWrong : ChangeSpec := { name := "fnLshZero", fn := fun _ => fun
  | [d1, d2, d3] => { results := [.lit (.bool false)], args := [d1, d2, d3] }
  | _ => none }
def FnLshZeroWrongFalsely : Prop := fnLshZeroRow.holds Try.pinned (OpenSpec.ofChange fnLshZeroWrong)

/-- 'laws.FnUint64Limits': WHATEVER THE INPUT: true; the input reads as it did. -/
def fnUint64LimitsSpec : ChangeSpec := { name := "fnUint64Limits", fn := fun _ => fun
  | [d] => { results := [.lit (.bool true)], args := [d] }
  | _ => none }
def fnUint64LimitsRow : OpenClaim := { program := "ytdodcmncdlnceaa", sum := "a78f3e59363019833364fdf3c9b04dc1910dfc69545dd13dfb27301a594dbcee", func := "loop.example/lib-g03408/laws.FnUint64Limits", spec := "fnUint64Limits", apart := false }
def FnUint64LimitsSaid : Prop := fnUint64LimitsRow.holds Try.pinned (OpenSpec.ofChange fnUint64LimitsSpec)

/-- ITS FALSE NEIGHBOUR: 'it returns false'. Refute it at one input. -/
def fnUint64LimitsWrong : ChangeSpec := { name := "fnUint64Limits", fn := fun _ => fun
  | [d] => { results := [.lit (.bool false)], args := [d] }
  | _ => none }
def FnUint64LimitsWrongFalsely : Prop := fnUint64LimitsRow.holds Try.pinned (OpenSpec.ofChange fnUint64LimitsWrong)

/-- 'laws.FnLshNeg': WHATEVER THE INPUT: true; the input reads as it did. -/
def fnLshNegSpec : ChangeSpec := { name := "fnLshNeg", fn := fun _ => fun
  | [d1, d2] => { results := [.lit (.bool true)], args := [d1, d2] }
  | _ => none }
def fnLshNegRow : OpenClaim := { program := "ytdodcmncdlnceaa", sum := "a78f3e59363019833364fdf3c9b04dc1910dfc69545dd13dfb27301a594dbcee", func := "loop.example/lib-g03408/laws.FnLshNeg", spec := "fnLshNeg", inPlace := ["math/big.lshVU"], apart := false }
def FnLshNegSaid : Prop := fnLshNegRow.holds Try.pinned (OpenSpec.ofChange fnLshNegSpec)

/-- ITS FALSE NEIGHBOUR: 'it returns false'. Refute it at one input. -/
def fnLshNegWrong : ChangeSpec := { name := "fnLshNeg", fn := fun _ => fun
  | [d1, d2] => { results := [.lit (.bool false)], args := [d1, d2] }
  | _ => none }
def FnLshNegWrongFalsely : Prop := fnLshNegRow.holds Try.pinned (OpenSpec.ofChange fnLshNegWrong)

/-- 'laws.FnInt64Limits': WHATEVER THE INPUT: true; the input reads as it did. -/
def fnInt64LimitsSpec : ChangeSpec := { name := "fnInt64Limits", fn := fun _ => fun
  | [d] => { results := [.lit (.bool true)], args := [d] }
  | _ => none }
def fnInt64LimitsRow : OpenClaim := { program := "ytdodcmncdlnceaa", sum := "a78f3e59363019833364fdf3c9b04dc1910dfc69545dd13dfb27301a594dbcee", func := "loop.example/lib-g03408/laws.FnInt64Limits", spec := "fnInt64Limits", apart := false }
def FnInt64LimitsSaid : Prop := fnInt64LimitsRow.holds Try.pinned (OpenSpec.ofChange fnInt64LimitsSpec)

/-- ITS FALSE NEIGHBOUR: 'it returns false'. Refute it at one input. -/
def fnInt64LimitsWrong : ChangeSpec := { name := "fnInt64Limits", fn := fun _ => fun
  | [d] => { results := [.lit (.bool false)], args := [d] }
  | _ => none }
def FnInt64LimitsWrongFalsely : Prop := fnInt64LimitsRow.holds Try.pinned (OpenSpec.ofChange fnInt64LimitsWrong)

/-- 'laws.FnLshOrder': WHATEVER THE INPUT: true; the input reads as it did. -/
def fnLshOrderSpec : ChangeSpec := { name := "fnLshOrder", fn := fun _ => fun
  | [d1, d2, d3] => { results := [.lit (.bool true)], args := [d1, d2, d3] }
  | _ => none }
def fnLshOrderRow : OpenClaim := { program := "ytdodcmncdlnceaa", sum := "a78f3e59363019833364fdf3c9b04dc1910dfc69545dd13dfb27301a594dbcee", func := "loop.example/lib-g03408/laws.FnLshOrder", spec := "fnLshOrder", inPlace := ["math/big.lshVU"], apart := false }
def FnLshOrderSaid : Prop := fnLshOrderRow.holds Try.pinned (OpenSpec.ofChange fnLshOrderSpec)

/-- ITS FALSE NEIGHBOUR: 'it returns false'. Refute it at one input. -/
def fnLshOrderWrong : ChangeSpec := { name := "fnLshOrder", fn := fun _ => fun
  | [d1, d2, d3] => { results := [.lit (.bool false)], args := [d1, d2, d3] }
  | _ => none }
def FnLshOrderWrongFalsely : Prop := fnLshOrderRow.holds Try.pinned (OpenSpec.ofChange fnLshOrderWrong)

/-- 'laws.FnBitLenShift': WHATEVER THE INPUT: true; the input reads as it did. -/
def fnBitLenShiftSpec : ChangeSpec := { name := "fnBitLenShift", fn := fun _ => fun
  | [d1, d2] => { results := [.lit (.bool true)], args := [d1, d2] }
  | _ => none }
def fnBitLenShiftRow : OpenClaim := { program := "ytdodcmncdlnceaa", sum := "a78f3e59363019833364fdf3c9b04dc1910dfc69545dd13dfb27301a594dbcee", func := "loop.example/lib-g03408/laws.FnBitLenShift", spec := "fnBitLenShift", inPlace := ["math/big.lshVU"], apart := false }
def FnBitLenShiftSaid : Prop := fnBitLenShiftRow.holds Try.pinned (OpenSpec.ofChange fnBitLenShiftSpec)

/-- ITS FALSE NEIGHBOUR: 'it returns false'. Refute it at one input. -/
def fnBitLenShiftWrong : ChangeSpec := { name := "fnBitLenShift", fn := fun _ => fun
  | [d1, d2] => { results := [.lit (.bool false)], args := [d1, d2] }
  | _ => none }
def FnBitLenShiftWrongFalsely : Prop := fnBitLenShiftRow.holds Try.pinned (OpenSpec.ofChange fnBitLenShiftWrong)

/-- 'laws.FnBitLenPower': WHATEVER THE INPUT: true; the input reads as it did. -/
def fnBitLenPowerSpec : ChangeSpec := { name := "fnBitLenPower", fn := fun _ => fun
  | [d] => { results := [.lit (.bool true)], args := [d] }
  | _ => none }
def fnBitLenPowerRow : OpenClaim := { program := "ytdodcmncdlnceaa", sum := "a78f3e59363019833364fdf3c9b04dc1910dfc69545dd13dfb27301a594dbcee", func := "loop.example/lib-g03408/laws.FnBitLenPower", spec := "fnBitLenPower", apart := false }
def FnBitLenPowerSaid : Prop := fnBitLenPowerRow.holds Try.pinned (OpenSpec.ofChange fnBitLenPowerSpec)

/-- ITS FALSE NEIGHBOUR: 'it returns false'. Refute it at one input. -/
def fnBitLenPowerWrong : ChangeSpec := { name := "fnBitLenPower", fn := fun _ => fun
  | [d] => { results := [.lit (.bool false)], args := [d] }
  | _ => none }
def FnBitLenPowerWrongFalsely : Prop := fnBitLenPowerRow.holds Try.pinned (OpenSpec.ofChange fnBitLenPowerWrong)

/- THE SECOND FORM. 'bulk': how many values and letters a reading holds, each counted each time it is reached (what is shared counts as often as it is met; a slice's spare places count too). A statement '..UptoSaid' is the law's where the arguments, and the package variables that the reading takes, are together of bulk at most 1048576: NARROWER than '..Said'. Prove '..Said' where nothing that the law and all that it calls make is longer than what came in: it says more and counts as full. Else prove '..UptoSaid'. A law counts once. -/
mutual
def uptoBulk {H : Type} : DataW H → Nat
  | .lit (.string bytes) => bytes.length + 1
  | .lit _ => 1
  | .nil => 1
  | .ptr d => uptoBulk d + 1
  | .slice elems spare => uptoBulkAll elems + uptoBulkAll spare + 1
  | .agg parts => uptoBulkAll parts + 1
  | .iface _ d => uptoBulk d + 1
  | .map entries => uptoBulkEntries entries + 1
  | .held _ => 1
def uptoBulkAll {H : Type} : List (DataW H) → Nat
  | [] => 0
  | d :: r => uptoBulk d + uptoBulkAll r
def uptoBulkEntries {H : Type} : List (Lit × DataW H) → Nat
  | [] => 0
  | x :: r => uptoBulkEntry x + uptoBulkEntries r
def uptoBulkEntry {H : Type} : Lit × DataW H → Nat
  | (.string bytes, d) => bytes.length + uptoBulk d + 1
  | (_, d) => uptoBulk d + 1
 end
def uptoSmall : (H : Type) → List (DataW H) → Bool := fun _ ds => decide (uptoBulkAll ds ≤ 1048576)
def OpenSpec.upto (s : _root_.Go.ChangeSpec) : _root_.Go.OpenSpec := { _root_.Go.OpenSpec.ofChange s with cond := some uptoSmall }

/-- 'laws.FnExactBitLen', WHERE WHAT IT READS IS OF BULK AT MOST 1048576: true; the input reads as it did. -/
def fnExactBitLenUptoRow : OpenClaim := { program := "ytdodcmncdlnceaa", sum := "a78f3e59363019833364fdf3c9b04dc1910dfc69545dd13dfb27301a594dbcee", func := "loop.example/lib-g03408/laws.FnExactBitLen", spec := "fnExactBitLen", apart := false, narrowed := true }
def FnExactBitLenUptoSaid : Prop := fnExactBitLenUptoRow.holds Try.pinned (OpenSpec.upto fnExactBitLenSpec)

/-- 'laws.FnExactLsh', WHERE WHAT IT READS IS OF BULK AT MOST 1048576: true; the input reads as it did. -/
def fnExactLshUptoRow : OpenClaim := { program := "ytdodcmncdlnceaa", sum := "a78f3e59363019833364fdf3c9b04dc1910dfc69545dd13dfb27301a594dbcee", func := "loop.example/lib-g03408/laws.FnExactLsh", spec := "fnExactLsh", inPlace := ["math/big.lshVU"], apart := false, narrowed := true }
def FnExactLshUptoSaid : Prop := fnExactLshUptoRow.holds Try.pinned (OpenSpec.upto fnExactLshSpec)

/-- 'laws.FnLshZero', WHERE WHAT IT READS IS OF BULK AT MOST 1048576: true; the input reads as it did. -/
def fnLshZeroUptoRow : OpenClaim := { program := "ytdodcmncdlnceaa", sum := "a78f3e59363019833364fdf3c9b04dc1910dfc69545dd13dfb27301a594dbcee", func := "loop.example/lib-g03408/laws.FnLshZero", spec := "fnLshZero", inPlace := ["math/big.lshVU"], apart := false, narrowed := true }
def FnLshZeroUptoSaid : Prop := fnLshZeroUptoRow.holds Try.pinned (OpenSpec.upto fnLshZeroSpec)

/-- 'laws.FnUint64Limits', WHERE WHAT IT READS IS OF BULK AT MOST 1048576: true; the input reads as it did. -/
def fnUint64LimitsUptoRow : OpenClaim := { program := "ytdodcmncdlnceaa", sum := "a78f3e59363019833364fdf3c9b04dc1910dfc69545dd13dfb27301a594dbcee", func := "loop.example/lib-g03408/laws.FnUint64Limits", spec := "fnUint64Limits", apart := false, narrowed := true }
def FnUint64LimitsUptoSaid : Prop := fnUint64LimitsUptoRow.holds Try.pinned (OpenSpec.upto fnUint64LimitsSpec)

/-- 'laws.FnLshNeg', WHERE WHAT IT READS IS OF BULK AT MOST 1048576: true; the input reads as it did. -/
def fnLshNegUptoRow : OpenClaim := { program := "ytdodcmncdlnceaa", sum := "a78f3e59363019833364fdf3c9b04dc1910dfc69545dd13dfb27301a594dbcee", func := "loop.example/lib-g03408/laws.FnLshNeg", spec := "fnLshNeg", inPlace := ["math/big.lshVU"], apart := false, narrowed := true }
def FnLshNegUptoSaid : Prop := fnLshNegUptoRow.holds Try.pinned (OpenSpec.upto fnLshNegSpec)

/-- 'laws.FnInt64Limits', WHERE WHAT IT READS IS OF BULK AT MOST 1048576: true; the input reads as it did. -/
def fnInt64LimitsUptoRow : OpenClaim := { program := "ytdodcmncdlnceaa", sum := "a78f3e59363019833364fdf3c9b04dc1910dfc69545dd13dfb27301a594dbcee", func := "loop.example/lib-g03408/laws.FnInt64Limits", spec := "fnInt64Limits", apart := false, narrowed := true }
def FnInt64LimitsUptoSaid : Prop := fnInt64LimitsUptoRow.holds Try.pinned (OpenSpec.upto fnInt64LimitsSpec)

/-- 'laws.FnLshOrder', WHERE WHAT IT READS IS OF BULK AT MOST 1048576: true; the input reads as it did. -/
def fnLshOrderUptoRow : OpenClaim := { program := "ytdodcmncdlnceaa", sum := "a78f3e59363019833364fdf3c9b04dc1910dfc69545dd13dfb27301a594dbcee", func := "loop.example/lib-g03408/laws.FnLshOrder", spec := "fnLshOrder", inPlace := ["math/big.lshVU"], apart := false, narrowed := true }
def FnLshOrderUptoSaid : Prop := fnLshOrderUptoRow.holds Try.pinned (OpenSpec.upto fnLshOrderSpec)

/-- 'laws.FnBitLenShift', WHERE WHAT IT READS IS OF BULK AT MOST 1048576: true; the input reads as it did. -/
def fnBitLenShiftUptoRow : OpenClaim := { program := "ytdodcmncdlnceaa", sum := "a78f3e59363019833364fdf3c9b04dc1910dfc69545dd13dfb27301a594dbcee", func := "loop.example/lib-g03408/laws.FnBitLenShift", spec := "fnBitLenShift", inPlace := ["math/big.lshVU"], apart := false, narrowed := true }
def FnBitLenShiftUptoSaid : Prop := fnBitLenShiftUptoRow.holds Try.pinned (OpenSpec.upto fnBitLenShiftSpec)

/-- 'laws.FnBitLenPower', WHERE WHAT IT READS IS OF BULK AT MOST 1048576: true; the input reads as it did. -/
def fnBitLenPowerUptoRow : OpenClaim := { program := "ytdodcmncdlnceaa", sum := "a78f3e59363019833364fdf3c9b04dc1910dfc69545dd13dfb27301a594dbcee", func := "loop.example/lib-g03408/laws.FnBitLenPower", spec := "fnBitLenPower", apart := false, narrowed := true }
def FnBitLenPowerUptoSaid : Prop := fnBitLenPowerUptoRow.holds Try.pinned (OpenSpec.upto fnBitLenPowerSpec)

end Rows
end Go.Proofs.Ytdodcmncdlnceaa
