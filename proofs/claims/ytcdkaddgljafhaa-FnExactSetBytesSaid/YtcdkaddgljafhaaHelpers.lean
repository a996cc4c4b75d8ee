/- The helpers of the laws by values (printed by lawgen.py). -/
import Derived.Test.YtcdkaddgljafhaaImplNA
import Derived.Test.YtcdkaddgljafhaaBits
set_option linter.unusedSimpArgs false
set_option linter.unusedVariables false
namespace Go.Proofs.Ytcdkaddgljafhaa
open Go.RowKit

end Go.Proofs.Ytcdkaddgljafhaa

