/-
  DERIVED. GIVEN WITH THE SEED: THE PROGRAM's TIES (one call each: nine closed facts by the kernel) AND EACH ROW's TIE, after the 31st guide's Derived/Test/Toyas{Tie, Card}.lean. No idea stands in it: it is a product of the set-up. Laid BY PROGRAM, IN A SANDBOX (cutbox-door.mjs). By AI agents, Wed Nov 11 2026. No macro, syntax, notation, axiom, sorry.
-/
import Derived.Test.Qxb6002384aFmtRows
import Derived.LaidByTextLater
import Derived.SevenTiedAt
import Derived.LaidSub
import Derived.LaidOnce
namespace Go.Proofs.Qxb6002384aFmt
open Go
set_option maxRecDepth 100000
theorem seatTie1 : Tryf.prog.laidByTextLater [("io.EOF", Rows.laid_io_EOF), ("math/big.errNoDigits", Rows.laid_math_big_errNoDigits), ("math/big.errInvalSep", Rows.laid_math_big_errInvalSep), ("example.com/tuoguan/tuoguan/pkg/decimal.errTooLong", Rows.laid_example_com_tuoguan_tuoguan_pkg_decimal_errTooLong)] [.sentinel, .sentinel, .sentinel, .sentinel] true :=
  Program.laidByTextLater_by_one 85 8 2 (by kernel_rfl) (by kernel_rfl) (by kernel_rfl) (by kernel_rfl) (by kernel_rfl) (by kernel_rfl) (fun _ _ => by kernel_rfl)
theorem noOwnUnsafe : Tryf.pinned.checked.prog.headLifts.contains "ownunsafe" = false := by kernel_rfl
theorem tie : Tryf.prog.laidByTextLater [("io.EOF", Rows.laid_io_EOF), ("math/big.errNoDigits", Rows.laid_math_big_errNoDigits), ("math/big.errInvalSep", Rows.laid_math_big_errInvalSep), ("example.com/tuoguan/tuoguan/pkg/decimal.errTooLong", Rows.laid_example_com_tuoguan_tuoguan_pkg_decimal_errTooLong)] [.sentinel, .sentinel, .sentinel, .sentinel] true :=
  Program.laidByTextLater.sub seatTie1 ["io.EOF", "math/big.errNoDigits", "math/big.errInvalSep", "example.com/tuoguan/tuoguan/pkg/decimal.errTooLong"] (by kernel_rfl) (by kernel_rfl)
theorem fnParseTakesExactlyThePlainDecimals_row_tie : Rows.fnParseTakesExactlyThePlainDecimalsRow.laidByTextAt .later Tryf.pinned [.sentinel, .sentinel, .sentinel, .sentinel] true :=
  OpenClaim.laidByTextAt_later rfl rfl tie noOwnUnsafe
theorem fnParseReadsTheNumeralItIsGiven_row_tie : Rows.fnParseReadsTheNumeralItIsGivenRow.laidByTextAt .later Tryf.pinned [.sentinel, .sentinel, .sentinel, .sentinel] true :=
  OpenClaim.laidByTextAt_later rfl rfl tie noOwnUnsafe
end Go.Proofs.Qxb6002384aFmt
