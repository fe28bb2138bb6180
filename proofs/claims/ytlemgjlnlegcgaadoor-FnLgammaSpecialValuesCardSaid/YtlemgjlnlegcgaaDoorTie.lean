/-
  DERIVED. GIVEN WITH THE SEED: THE PROGRAM's TIES (one call each: nine closed facts by the kernel) AND EACH ROW's TIE, after the 31st guide's Derived/Test/Toyas{Tie, Card}.lean. No idea stands in it: it is a product of the set-up. Laid BY PROGRAM, IN A SANDBOX (cutbox-door.mjs). By AI agents, Wed Nov 11 2026. No macro, syntax, notation, axiom, sorry.
-/
import Derived.Test.YtlemgjlnlegcgaaDoorRows
import Derived.LaidByTextLater
import Derived.SevenTiedAt
import Derived.LaidSub
import Derived.LaidOnce
namespace Go.Proofs.YtlemgjlnlegcgaaDoor
open Go
set_option maxRecDepth 100000
theorem seatTie1 : Tryd.prog.laidByTextLater [("math._lgamA", Rows.laid_math_lgamA), ("math._lgamR", Rows.laid_math_lgamR), ("math._lgamS", Rows.laid_math_lgamS), ("math._lgamT", Rows.laid_math_lgamT), ("math._lgamU", Rows.laid_math_lgamU), ("math._lgamV", Rows.laid_math_lgamV), ("math._lgamW", Rows.laid_math_lgamW), ("math._sin", Rows.laid_math_sin), ("math._cos", Rows.laid_math_cos), ("math.mPi4", Rows.laid_math_mPi4)] [.data, .data, .data, .data, .data, .data, .data, .data, .data, .data] true :=
  Program.laidByTextLater_by_one 59 8 21 (by kernel_rfl) (by kernel_rfl) (by kernel_rfl) (by kernel_rfl) (by kernel_rfl) (by kernel_rfl) (fun _ _ => by kernel_rfl)
theorem noOwnUnsafe : Tryd.pinned.checked.prog.headLifts.contains "ownunsafe" = false := by kernel_rfl
theorem tie : Tryd.prog.laidByTextLater [("math._lgamA", Rows.laid_math_lgamA), ("math._lgamR", Rows.laid_math_lgamR), ("math._lgamS", Rows.laid_math_lgamS), ("math._lgamT", Rows.laid_math_lgamT), ("math._lgamU", Rows.laid_math_lgamU), ("math._lgamV", Rows.laid_math_lgamV), ("math._lgamW", Rows.laid_math_lgamW), ("math._sin", Rows.laid_math_sin), ("math._cos", Rows.laid_math_cos), ("math.mPi4", Rows.laid_math_mPi4)] [.data, .data, .data, .data, .data, .data, .data, .data, .data, .data] true :=
  Program.laidByTextLater.sub seatTie1 ["math._lgamA", "math._lgamR", "math._lgamS", "math._lgamT", "math._lgamU", "math._lgamV", "math._lgamW", "math._sin", "math._cos", "math.mPi4"] (by kernel_rfl) (by kernel_rfl)
theorem fnLgammaSignOnPositiveReals_row_tie : Rows.fnLgammaSignOnPositiveRealsRow.laidByTextAt .later Tryd.pinned [.data, .data, .data, .data, .data, .data, .data, .data, .data, .data] true :=
  OpenClaim.laidByTextAt_later rfl rfl tie noOwnUnsafe
theorem fnLgammaSpecialValues_row_tie : Rows.fnLgammaSpecialValuesRow.laidByTextAt .later Tryd.pinned [.data, .data, .data, .data, .data, .data, .data, .data, .data, .data] true :=
  OpenClaim.laidByTextAt_later rfl rfl tie noOwnUnsafe
theorem fnLgammaSignOnPositiveRealsUpto_row_tie : Rows.fnLgammaSignOnPositiveRealsUptoRow.laidByTextAt .later Tryd.pinned [.data, .data, .data, .data, .data, .data, .data, .data, .data, .data] true :=
  OpenClaim.laidByTextAt_later rfl rfl tie noOwnUnsafe
theorem fnLgammaSpecialValuesUpto_row_tie : Rows.fnLgammaSpecialValuesUptoRow.laidByTextAt .later Tryd.pinned [.data, .data, .data, .data, .data, .data, .data, .data, .data, .data] true :=
  OpenClaim.laidByTextAt_later rfl rfl tie noOwnUnsafe
end Go.Proofs.YtlemgjlnlegcgaaDoor
