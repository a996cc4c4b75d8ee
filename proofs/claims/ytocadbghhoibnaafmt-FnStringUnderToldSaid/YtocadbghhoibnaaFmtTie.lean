/-
  DERIVED. GIVEN WITH THE SEED: THE PROGRAM's TIES (one call each: nine closed facts by the kernel) AND EACH ROW's TIE, after the 31st guide's Derived/Test/Toyas{Tie, Card}.lean. No idea stands in it: it is a product of the set-up. Laid BY PROGRAM, IN A SANDBOX (cutbox-door.mjs). By AI agents, Wed Nov 11 2026. No macro, syntax, notation, axiom, sorry.
-/
import Derived.Test.YtocadbghhoibnaaFmtRows
import Derived.LaidByTextLater
import Derived.SevenTiedAt
import Derived.LaidSub
import Derived.LaidOnce
namespace Go.Proofs.YtocadbghhoibnaaFmt
open Go
set_option maxRecDepth 100000
theorem seatTie1 : Tryf.prog.laidByTextLater [("io.EOF", Rows.laid_io_EOF), ("math/big.errNoDigits", Rows.laid_math_big_errNoDigits), ("math/big.errInvalSep", Rows.laid_math_big_errInvalSep)] [.sentinel, .sentinel, .sentinel] true :=
  Program.laidByTextLater_by_one 66 8 2 (by kernel_rfl) (by kernel_rfl) (by kernel_rfl) (by kernel_rfl) (by kernel_rfl) (by kernel_rfl) (fun _ _ => by kernel_rfl)
theorem noOwnUnsafe : Tryf.pinned.checked.prog.headLifts.contains "ownunsafe" = false := by kernel_rfl
theorem tie : Tryf.prog.laidByTextLater [("io.EOF", Rows.laid_io_EOF), ("math/big.errNoDigits", Rows.laid_math_big_errNoDigits), ("math/big.errInvalSep", Rows.laid_math_big_errInvalSep)] [.sentinel, .sentinel, .sentinel] true :=
  Program.laidByTextLater.sub seatTie1 ["io.EOF", "math/big.errNoDigits", "math/big.errInvalSep"] (by kernel_rfl) (by kernel_rfl)
theorem fnStringUint64_row_tie : Rows.fnStringUint64Row.laidByTextAt .later Tryf.pinned [.sentinel, .sentinel, .sentinel] true :=
  OpenClaim.laidByTextAt_later rfl rfl tie noOwnUnsafe
theorem fnStringJoined_row_tie : Rows.fnStringJoinedRow.laidByTextAt .later Tryf.pinned [.sentinel, .sentinel, .sentinel] true :=
  OpenClaim.laidByTextAt_later rfl rfl tie noOwnUnsafe
theorem fnExactSetString_row_tie : Rows.fnExactSetStringRow.laidByTextAt .later Tryf.pinned [.sentinel, .sentinel, .sentinel] true :=
  OpenClaim.laidByTextAt_later rfl rfl tie noOwnUnsafe
theorem fnExactSetStringSigned_row_tie : Rows.fnExactSetStringSignedRow.laidByTextAt .later Tryf.pinned [.sentinel, .sentinel, .sentinel] true :=
  OpenClaim.laidByTextAt_later rfl rfl tie noOwnUnsafe
theorem fnStringCase_row_tie : Rows.fnStringCaseRow.laidByTextAt .later Tryf.pinned [.sentinel, .sentinel, .sentinel] true :=
  OpenClaim.laidByTextAt_later rfl rfl tie noOwnUnsafe
theorem fnStringOctal_row_tie : Rows.fnStringOctalRow.laidByTextAt .later Tryf.pinned [.sentinel, .sentinel, .sentinel] true :=
  OpenClaim.laidByTextAt_later rfl rfl tie noOwnUnsafe
theorem fnStringPrefix_row_tie : Rows.fnStringPrefixRow.laidByTextAt .later Tryf.pinned [.sentinel, .sentinel, .sentinel] true :=
  OpenClaim.laidByTextAt_later rfl rfl tie noOwnUnsafe
theorem fnStringUnder_row_tie : Rows.fnStringUnderRow.laidByTextAt .later Tryf.pinned [.sentinel, .sentinel, .sentinel] true :=
  OpenClaim.laidByTextAt_later rfl rfl tie noOwnUnsafe
theorem fnStringZeros_row_tie : Rows.fnStringZerosRow.laidByTextAt .later Tryf.pinned [.sentinel, .sentinel, .sentinel] true :=
  OpenClaim.laidByTextAt_later rfl rfl tie noOwnUnsafe
theorem fnStringSign_row_tie : Rows.fnStringSignRow.laidByTextAt .later Tryf.pinned [.sentinel, .sentinel, .sentinel] true :=
  OpenClaim.laidByTextAt_later rfl rfl tie noOwnUnsafe
theorem fnStringBytes_row_tie : Rows.fnStringBytesRow.laidByTextAt .later Tryf.pinned [.sentinel, .sentinel, .sentinel] true :=
  OpenClaim.laidByTextAt_later rfl rfl tie noOwnUnsafe
theorem fnStringRound_row_tie : Rows.fnStringRoundRow.laidByTextAt .later Tryf.pinned [.sentinel, .sentinel, .sentinel] true :=
  OpenClaim.laidByTextAt_later rfl rfl tie noOwnUnsafe
end Go.Proofs.YtocadbghhoibnaaFmt
