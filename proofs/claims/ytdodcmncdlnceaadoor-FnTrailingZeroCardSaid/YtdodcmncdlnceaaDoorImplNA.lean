/- impl.Neg, impl.Abs by values: contracts (printed by gen4.py). -/
import Derived.Test.YtdodcmncdlnceaaDoorTriple
set_option linter.unusedSimpArgs false
set_option linter.unusedVariables false
namespace Go.Proofs.YtdodcmncdlnceaaDoor
open Go.RowKit

/-- What the operand holds behind the call. -/
def after1 (k : Int) (new old : Int) : Int := bif decide (k = 1) then new else old

end Go.Proofs.YtdodcmncdlnceaaDoor
