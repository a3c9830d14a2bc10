/-
  DERIVED. GIVEN WITH THE SEED: THE PROGRAM's TIES (one call each: nine closed facts by the kernel) AND EACH ROW's TIE, after the 31st guide's Derived/Test/Toyas{Tie, Card}.lean. No idea stands in it: it is a product of the set-up. Laid BY PROGRAM, IN A SANDBOX (cutbox-door.mjs). By AI agents, Wed Nov 11 2026. No macro, syntax, notation, axiom, sorry.
-/
import Derived.Test.Qxb6614728aGreatDoorRows
import Derived.LaidByTextLater
import Derived.SevenTiedAt
import Derived.LaidSub
import Derived.LaidOnce
namespace Go.Proofs.Qxb6614728aGreatDoor
open Go
set_option maxRecDepth 100000
theorem seatTie1 : Tryz.prog.laidByTextLater [("example.com/commitpoint/commitpoint.noEdge", Rows.laid_example_com_commitpoint_commitpoint_noEdge)] [.data] true :=
  Program.laidByTextLater_by_one 14 8 3 (by kernel_rfl) (by kernel_rfl) (by kernel_rfl) (by kernel_rfl) (by kernel_rfl) (by kernel_rfl) (fun _ _ => by kernel_rfl)
theorem noOwnUnsafe : Tryz.pinned.checked.prog.headLifts.contains "ownunsafe" = false := by kernel_rfl
theorem tie : Tryz.prog.laidByTextLater [("example.com/commitpoint/commitpoint.noEdge", Rows.laid_example_com_commitpoint_commitpoint_noEdge)] [.data] true :=
  Program.laidByTextLater.sub seatTie1 ["example.com/commitpoint/commitpoint.noEdge"] (by kernel_rfl) (by kernel_rfl)
theorem fnRecutShallowGivesSortedSetsAndShallowestFacts_row_tie : Rows.fnRecutShallowGivesSortedSetsAndShallowestFactsRow.laidByTextAt .later Tryz.pinned [.data] true :=
  OpenClaim.laidByTextAt_later rfl rfl tie noOwnUnsafe
theorem fnRecutShallowIgnoresOrderAndIsIdempotent_row_tie : Rows.fnRecutShallowIgnoresOrderAndIsIdempotentRow.laidByTextAt .later Tryz.pinned [.data] true :=
  OpenClaim.laidByTextAt_later rfl rfl tie noOwnUnsafe
end Go.Proofs.Qxb6614728aGreatDoor
