/- The helpers of the laws by values (printed by lawgen.py). -/
import Derived.Test.YtdodcmncdlnceaaDoorImplNA
import Derived.Test.YtdodcmncdlnceaaDoorBits
set_option linter.unusedSimpArgs false
set_option linter.unusedVariables false
namespace Go.Proofs.YtdodcmncdlnceaaDoor
open Go.RowKit

end Go.Proofs.YtdodcmncdlnceaaDoor

