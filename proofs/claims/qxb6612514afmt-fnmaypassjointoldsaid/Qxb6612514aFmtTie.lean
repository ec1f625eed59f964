/-
  DERIVED. GIVEN WITH THE SEED: THE PROGRAM's TIES (one call each: nine closed facts by the kernel) AND EACH ROW's TIE, after the 31st guide's Derived/Test/Toyas{Tie, Card}.lean. No idea stands in it: it is a product of the set-up. Laid BY PROGRAM, IN A SANDBOX (cutbox-door.mjs). By AI agents, Wed Nov 11 2026. No macro, syntax, notation, axiom, sorry.
-/
import Derived.Test.Qxb6612514aFmtRows
import Derived.LaidByTextLater
import Derived.SevenTiedAt
import Derived.LaidSub
import Derived.LaidOnce
namespace Go.Proofs.Qxb6612514aFmt
open Go
set_option maxRecDepth 100000
theorem seatTie1 : Tryf.prog.laidByTextLater [("example.com/turnstone/turnstone.ErrNoRun", Rows.laid_example_com_turnstone_turnstone_ErrNoRun), ("example.com/turnstone/turnstone.ErrRateLimited", Rows.laid_example_com_turnstone_turnstone_ErrRateLimited), ("example.com/turnstone/turnstone.ErrTransient", Rows.laid_example_com_turnstone_turnstone_ErrTransient)] [.sentinel, .sentinel, .sentinel] true :=
  Program.laidByTextLater_by_one 66 8 2 (by kernel_rfl) (by kernel_rfl) (by kernel_rfl) (by kernel_rfl) (by kernel_rfl) (by kernel_rfl) (fun _ _ => by kernel_rfl)
theorem noOwnUnsafe : Tryf.pinned.checked.prog.headLifts.contains "ownunsafe" = false := by kernel_rfl
theorem tie : Tryf.prog.laidByTextLater [("example.com/turnstone/turnstone.ErrNoRun", Rows.laid_example_com_turnstone_turnstone_ErrNoRun), ("example.com/turnstone/turnstone.ErrRateLimited", Rows.laid_example_com_turnstone_turnstone_ErrRateLimited), ("example.com/turnstone/turnstone.ErrTransient", Rows.laid_example_com_turnstone_turnstone_ErrTransient)] [.sentinel, .sentinel, .sentinel] true :=
  Program.laidByTextLater.sub seatTie1 ["example.com/turnstone/turnstone.ErrNoRun", "example.com/turnstone/turnstone.ErrRateLimited", "example.com/turnstone/turnstone.ErrTransient"] (by kernel_rfl) (by kernel_rfl)
theorem fnMayPassClass_row_tie : Rows.fnMayPassClassRow.laidByTextAt .later Tryf.pinned [.sentinel, .sentinel, .sentinel] true :=
  OpenClaim.laidByTextAt_later rfl rfl tie noOwnUnsafe
theorem fnMayPassJoin_row_tie : Rows.fnMayPassJoinRow.laidByTextAt .later Tryf.pinned [.sentinel, .sentinel, .sentinel] true :=
  OpenClaim.laidByTextAt_later rfl rfl tie noOwnUnsafe
theorem tie2 : Tryf.prog.laidByTextLater [("example.com/turnstone/turnstone.ErrNoRun", Rows.laid_example_com_turnstone_turnstone_ErrNoRun)] [.sentinel] true :=
  Program.laidByTextLater.sub seatTie1 ["example.com/turnstone/turnstone.ErrNoRun"] (by kernel_rfl) (by kernel_rfl)
theorem fnFollowUpScript_row_tie : Rows.fnFollowUpScriptRow.laidByTextAt .later Tryf.pinned [.sentinel] true :=
  OpenClaim.laidByTextAt_later rfl rfl tie2 noOwnUnsafe
end Go.Proofs.Qxb6612514aFmt
