/- FnReceiverHeld (printed by lawgen.py). -/
import Derived.Test.YtacmojhladdalaaLaw33
import Derived.Test.YtacmojhladdalaaLaw34
import Derived.Test.YtacmojhladdalaaLaw35
set_option linter.unusedSimpArgs false
set_option linter.unusedVariables false
namespace Go.Proofs.Ytacmojhladdalaa
open Go.RowKit

theorem fnReceiverHeld_walk (k : Int) (n1 : Bool) (v1 : Value) (ws1 : List Nat) (n2 : Bool) (v2 : Value) (ws2 : List Nat) (n3 : Bool) (v3 : Value) (ws3 : List Nat) (w : World) (hk : (Lit.int .i64 k).wf = true) (hr1 : Rd .u64 w v1 ws1) (hl1 : ws1.length ≤ 17592186043904) (hr2 : Rd .u64 w v2 ws2) (hl2 : ws2.length ≤ 17592186043904) (hr3 : Rd .u64 w v3 ws3) (hl3 : ws3.length ≤ 17592186043904) :
    Calls Try.prog 9 #[.int .i64 k, .agg #[.bool n1, v1], .agg #[.bool n2, v2], .agg #[.bool n3, v3]] w (ValR (.bool true) w) := by
  by_cases h3 : k = 3
  · exact fnReceiverHeld_t3 k n1 v1 ws1 n2 v2 ws2 n3 v3 ws3 w hr1 hl1 hr2 hl2 hr3 hl3 h3 (fun a b => by simp [secZ, isOne, h3])
  · by_cases h4 : k = 4
    · exact fnReceiverHeld_t4 k n1 v1 ws1 n2 v2 ws2 n3 v3 ws3 w hr1 hl1 hr2 hl2 hr3 hl3 h4 (fun a b => by simp [secZ, isOne, h4])
    · exact fnReceiverHeld_n k n1 v1 ws1 n2 v2 ws2 n3 v3 ws3 w hr1 hl1 hr2 hl2 hr3 hl3 ⟨h3, h4⟩ (fun a b => by simp [secZ, isOne, h3, h4])

end Go.Proofs.Ytacmojhladdalaa

