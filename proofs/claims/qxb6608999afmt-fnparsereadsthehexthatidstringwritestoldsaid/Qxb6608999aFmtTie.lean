/-
  DERIVED. GIVEN WITH THE SEED: THE PROGRAM's TIES (one call each: nine closed facts by the kernel) AND EACH ROW's TIE, after the 31st guide's Derived/Test/Toyas{Tie, Card}.lean. No idea stands in it: it is a product of the set-up. Laid BY PROGRAM, IN A SANDBOX (cutbox-door.mjs). By AI agents, Wed Nov 11 2026. No macro, syntax, notation, axiom, sorry.
-/
import Derived.Test.Qxb6608999aFmtRows
import Derived.LaidByTextLater
import Derived.SevenTiedAt
import Derived.LaidSub
import Derived.LaidOnce
namespace Go.Proofs.Qxb6608999aFmt
open Go
set_option maxRecDepth 100000
theorem seatTie1 : Tryf.prog.laidByTextLater [("io.EOF", Rows.laid_io_EOF), ("math/big.errNoDigits", Rows.laid_math_big_errNoDigits), ("math/big.errInvalSep", Rows.laid_math_big_errInvalSep)] [.sentinel, .sentinel, .sentinel] true :=
  Program.laidByTextLater_by_one 66 8 2 (by kernel_rfl) (by kernel_rfl) (by kernel_rfl) (by kernel_rfl) (by kernel_rfl) (by kernel_rfl) (fun _ _ => by kernel_rfl)
theorem noOwnUnsafe : Tryf.pinned.checked.prog.headLifts.contains "ownunsafe" = false := by kernel_rfl
theorem tie : Tryf.prog.laidByTextLater [("io.EOF", Rows.laid_io_EOF), ("math/big.errNoDigits", Rows.laid_math_big_errNoDigits), ("math/big.errInvalSep", Rows.laid_math_big_errInvalSep)] [.sentinel, .sentinel, .sentinel] true :=
  Program.laidByTextLater.sub seatTie1 ["io.EOF", "math/big.errNoDigits", "math/big.errInvalSep"] (by kernel_rfl) (by kernel_rfl)
theorem fnParseReadsTheHexThatIDStringWrites_row_tie : Rows.fnParseReadsTheHexThatIDStringWritesRow.laidByTextAt .later Tryf.pinned [.sentinel, .sentinel, .sentinel] true :=
  OpenClaim.laidByTextAt_later rfl rfl tie noOwnUnsafe
end Go.Proofs.Qxb6608999aFmt
