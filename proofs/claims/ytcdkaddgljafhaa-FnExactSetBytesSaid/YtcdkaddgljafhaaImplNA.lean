/- impl.Neg, impl.Abs by values: contracts (printed by gen4.py). -/
import Derived.Test.YtcdkaddgljafhaaTriple
set_option linter.unusedSimpArgs false
set_option linter.unusedVariables false
namespace Go.Proofs.Ytcdkaddgljafhaa
open Go.RowKit

/-- What the operand holds behind the call. -/
def after1 (k : Int) (new old : Int) : Int := bif decide (k = 1) then new else old

end Go.Proofs.Ytcdkaddgljafhaa
