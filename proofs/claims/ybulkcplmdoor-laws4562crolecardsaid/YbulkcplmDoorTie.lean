/-
  DERIVED. GIVEN WITH THE SEED: THE PROGRAM's TIES (one call each: nine closed facts by the kernel) AND EACH ROW's TIE, after the 31st guide's Derived/Test/Toyas{Tie, Card}.lean. No idea stands in it: it is a product of the set-up. Laid BY PROGRAM, IN A SANDBOX (cutbox-door.mjs). By AI agents, Wed Nov 11 2026. No macro, syntax, notation, axiom, sorry.
-/
import Derived.Test.YbulkcplmDoorRows
import Derived.LaidByTextLater
import Derived.SevenTiedAt
import Derived.LaidSub
import Derived.LaidOnce
namespace Go.Proofs.YbulkcplmDoor
open Go
set_option maxRecDepth 100000
theorem seatTie1 : Ybad.prog.laidByTextLater [("example.com/speakwell/speakwell/pkg/wire.counterparts", Rows.laid_example_com_speakwell_speakwell_pkg_wire_counterparts), ("example.com/speakwell/speakwell/pkg/session.wireRoles", Rows.laid_example_com_speakwell_speakwell_pkg_session_wireRoles)] [.mapped, .mapped] true :=
  Program.laidByTextLater_by_one 69 8 2 (by kernel_rfl) (by kernel_rfl) (by kernel_rfl) (by kernel_rfl) (by kernel_rfl) (by kernel_rfl) (fun _ _ => by kernel_rfl)
theorem noOwnUnsafe : Ybad.pinned.checked.prog.headLifts.contains "ownunsafe" = false := by kernel_rfl
theorem tie : Ybad.prog.laidByTextLater [("example.com/speakwell/speakwell/pkg/wire.counterparts", Rows.laid_example_com_speakwell_speakwell_pkg_wire_counterparts), ("example.com/speakwell/speakwell/pkg/session.wireRoles", Rows.laid_example_com_speakwell_speakwell_pkg_session_wireRoles)] [.mapped, .mapped] true :=
  Program.laidByTextLater.sub seatTie1 ["example.com/speakwell/speakwell/pkg/wire.counterparts", "example.com/speakwell/speakwell/pkg/session.wireRoles"] (by kernel_rfl) (by kernel_rfl)
theorem lawS4562CRole_row_tie : Rows.lawS4562CRoleRow.laidByTextAt .later Ybad.pinned [.mapped, .mapped] true :=
  OpenClaim.laidByTextAt_later rfl rfl tie noOwnUnsafe
theorem lawS4562CRefuse_row_tie : Rows.lawS4562CRefuseRow.laidByTextAt .later Ybad.pinned [.mapped, .mapped] true :=
  OpenClaim.laidByTextAt_later rfl rfl tie noOwnUnsafe
end Go.Proofs.YbulkcplmDoor
