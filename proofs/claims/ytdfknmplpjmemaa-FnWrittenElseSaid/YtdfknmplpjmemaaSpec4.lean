/- The reference: Int64, IsInt64 by values: contracts. -/
import Derived.Test.YtdfknmplpjmemaaBits
set_option linter.unusedSimpArgs false
set_option linter.unusedVariables false
namespace Go.Proofs.Ytdfknmplpjmemaa
open Go.RowKit

def c63 : Nat := 9223372036854775808

def c62 : Nat := 9223372036854775807

end Go.Proofs.Ytdfknmplpjmemaa
