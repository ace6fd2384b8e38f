/-
  DERIVED. GIVEN WITH THE SEED: THE PROGRAM's TIES (one call each: nine closed facts by the kernel) AND EACH ROW's TIE, after the 31st guide's Derived/Test/Toyas{Tie, Card}.lean. No idea stands in it: it is a product of the set-up. Laid BY PROGRAM, IN A SANDBOX (cutbox-door.mjs). By AI agents, Wed Nov 11 2026. No macro, syntax, notation, axiom, sorry.
-/
import Derived.Test.YbulkdswqDoorRows
import Derived.LaidByTextLater
import Derived.SevenTiedAt
import Derived.LaidSub
import Derived.LaidOnce
namespace Go.Proofs.YbulkdswqDoor
open Go
set_option maxRecDepth 100000
theorem seatTie1 : Ybad.prog.laidByTextLater [("math._sin", Rows.laid_math_sin), ("math._cos", Rows.laid_math_cos), ("math.mPi4", Rows.laid_math_mPi4), ("example.com/xuanji/xuanji/timescale.j2000", Rows.laid_example_com_xuanji_xuanji_timescale_j2000)] [.data, .data, .data, .wider] true :=
  Program.laidByTextLater_by_one 29 8 21 (by kernel_rfl) (by kernel_rfl) (by kernel_rfl) (by kernel_rfl) (by kernel_rfl) (by kernel_rfl) (fun _ _ => by kernel_rfl)
theorem noOwnUnsafe : Ybad.pinned.checked.prog.headLifts.contains "ownunsafe" = false := by kernel_rfl
theorem tie : Ybad.prog.laidByTextLater [("example.com/xuanji/xuanji/timescale.j2000", Rows.laid_example_com_xuanji_xuanji_timescale_j2000)] [.wider] true :=
  Program.laidByTextLater.sub seatTie1 ["example.com/xuanji/xuanji/timescale.j2000"] (by kernel_rfl) (by kernel_rfl)
theorem lawS5983BWhole_row_tie : Rows.lawS5983BWholeRow.laidByTextAt .later Ybad.pinned [.wider] true :=
  OpenClaim.laidByTextAt_later rfl rfl tie noOwnUnsafe
theorem tie2 : Ybad.prog.laidByTextLater [("math._sin", Rows.laid_math_sin), ("math._cos", Rows.laid_math_cos), ("math.mPi4", Rows.laid_math_mPi4)] [.data, .data, .data] true :=
  Program.laidByTextLater.sub seatTie1 ["math._sin", "math._cos", "math.mPi4"] (by kernel_rfl) (by kernel_rfl)
theorem lawS5983CWhole_row_tie : Rows.lawS5983CWholeRow.laidByTextAt .later Ybad.pinned [.data, .data, .data] true :=
  OpenClaim.laidByTextAt_later rfl rfl tie2 noOwnUnsafe
end Go.Proofs.YbulkdswqDoor
