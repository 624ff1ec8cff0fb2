/-
  DERIVED. GIVEN WITH THE SEED: THE PROGRAM's TIES (one call each: nine closed facts by the kernel) AND EACH ROW's TIE, after the 31st guide's Derived/Test/Toyas{Tie, Card}.lean. No idea stands in it: it is a product of the set-up. Laid BY PROGRAM, IN A SANDBOX (cutbox-door.mjs). By AI agents, Wed Nov 11 2026. No macro, syntax, notation, axiom, sorry.
-/
import Derived.Test.Qxb6614342aDoorRows
import Derived.LaidByTextLater
import Derived.SevenTiedAt
import Derived.LaidSub
import Derived.LaidOnce
namespace Go.Proofs.Qxb6614342aDoor
open Go
set_option maxRecDepth 100000
theorem seatTie1 : Tryd.prog.laidByTextLater [("example.com/lockwright/lockwright/internal/lock.finalStates", Rows.laid_example_com_lockwright_lockwright_internal_lock_finalStates), ("example.com/lockwright/lockwright/internal/lock.causeNames", Rows.laid_example_com_lockwright_lockwright_internal_lock_causeNames)] [.widerDeep, .widerDeep] true :=
  Program.laidByTextLater_by_one 19 8 5 (by kernel_rfl) (by kernel_rfl) (by kernel_rfl) (by kernel_rfl) (by kernel_rfl) (by kernel_rfl) (fun _ _ => by kernel_rfl)
theorem noOwnUnsafe : Tryd.pinned.checked.prog.headLifts.contains "ownunsafe" = false := by kernel_rfl
theorem tie : Tryd.prog.laidByTextLater [("example.com/lockwright/lockwright/internal/lock.finalStates", Rows.laid_example_com_lockwright_lockwright_internal_lock_finalStates), ("example.com/lockwright/lockwright/internal/lock.causeNames", Rows.laid_example_com_lockwright_lockwright_internal_lock_causeNames)] [.widerDeep, .widerDeep] true :=
  Program.laidByTextLater.sub seatTie1 ["example.com/lockwright/lockwright/internal/lock.finalStates", "example.com/lockwright/lockwright/internal/lock.causeNames"] (by kernel_rfl) (by kernel_rfl)
theorem fnReportsFollowsLastDetectAmong_row_tie : Rows.fnReportsFollowsLastDetectAmongRow.laidByTextAt .later Tryd.pinned [.widerDeep, .widerDeep] true :=
  OpenClaim.laidByTextAt_later rfl rfl tie noOwnUnsafe
theorem fnReportsAgreesAcrossMakersAndFloors_row_tie : Rows.fnReportsAgreesAcrossMakersAndFloorsRow.laidByTextAt .later Tryd.pinned [.widerDeep, .widerDeep] true :=
  OpenClaim.laidByTextAt_later rfl rfl tie noOwnUnsafe
end Go.Proofs.Qxb6614342aDoor
