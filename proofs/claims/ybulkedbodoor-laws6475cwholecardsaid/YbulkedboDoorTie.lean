/-
  DERIVED. GIVEN WITH THE SEED: THE PROGRAM's TIES (one call each: nine closed facts by the kernel) AND EACH ROW's TIE, after the 31st guide's Derived/Test/Toyas{Tie, Card}.lean. No idea stands in it: it is a product of the set-up. Laid BY PROGRAM, IN A SANDBOX (cutbox-door.mjs). By AI agents, Wed Nov 11 2026. No macro, syntax, notation, axiom, sorry.
-/
import Derived.Test.YbulkedboDoorRows
import Derived.LaidByTextLater
import Derived.SevenTiedAt
import Derived.LaidSub
import Derived.LaidOnce
namespace Go.Proofs.YbulkedboDoor
open Go
set_option maxRecDepth 100000
theorem seatTie1 : Ybad.prog.laidByTextLater [("example.com/computus/computus.monthDays", Rows.laid_example_com_computus_computus_monthDays), ("example.com/computus/computus.weekdayCodes", Rows.laid_example_com_computus_computus_weekdayCodes)] [.wider, .widerDeep] true :=
  Program.laidByTextLater_by_one 19 8 11 (by kernel_rfl) (by kernel_rfl) (by kernel_rfl) (by kernel_rfl) (by kernel_rfl) (by kernel_rfl) (fun _ _ => by kernel_rfl)
theorem noOwnUnsafe : Ybad.pinned.checked.prog.headLifts.contains "ownunsafe" = false := by kernel_rfl
theorem tie : Ybad.prog.laidByTextLater [("example.com/computus/computus.weekdayCodes", Rows.laid_example_com_computus_computus_weekdayCodes)] [.widerDeep] true :=
  Program.laidByTextLater.sub seatTie1 ["example.com/computus/computus.weekdayCodes"] (by kernel_rfl) (by kernel_rfl)
theorem lawS6475AWhole_row_tie : Rows.lawS6475AWholeRow.laidByTextAt .later Ybad.pinned [.widerDeep] true :=
  OpenClaim.laidByTextAt_later rfl rfl tie noOwnUnsafe
theorem tie2 : Ybad.prog.laidByTextLater [("example.com/computus/computus.monthDays", Rows.laid_example_com_computus_computus_monthDays)] [.wider] true :=
  Program.laidByTextLater.sub seatTie1 ["example.com/computus/computus.monthDays"] (by kernel_rfl) (by kernel_rfl)
theorem lawS6475CWhole_row_tie : Rows.lawS6475CWholeRow.laidByTextAt .later Ybad.pinned [.wider] true :=
  OpenClaim.laidByTextAt_later rfl rfl tie2 noOwnUnsafe
end Go.Proofs.YbulkedboDoor
