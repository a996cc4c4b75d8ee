/- impl.F(x Number) that call a reading method of the Int: contracts by values (printed by gen3.py). -/
import Derived.Test.YtdodcmncdlnceaaDoorInt64
set_option linter.unusedSimpArgs false
set_option linter.unusedVariables false
namespace Go.Proofs.YtdodcmncdlnceaaDoor
open Go.RowKit

end Go.Proofs.YtdodcmncdlnceaaDoor
