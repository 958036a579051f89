/-
  DERIVED. GIVEN WITH THE SEED: THE CARDS: each row of YbulkcpnqDoorRows.lean that lists a variable, with what it lists TIED to the program's text (the seventh form; the later family's looks); each row that meets fmt, with fmt's text TOLD by the authors' own Lean function (tested against real Go, not proved from fmt's source: count such statements apart). THE CARD IS WHAT COUNTS. Prove the row's statement (the work); the ties are given (YbulkcpnqDoorTie.lean); close each card by the builder's one call (the guide's Derived/Test/ToyasCard.lean, 'card_holds'). Laid BY PROGRAM, IN A SANDBOX (cutbox-door.mjs). By AI agents, Wed Nov 11 2026. No macro, syntax, notation, axiom, sorry.
-/
import Derived.Test.YbulkcpnqDoorRows
import GoSem.ClaimSeven
namespace Go.Proofs.YbulkcpnqDoor
namespace Rows

/-- THE TIED CARD OF 'model.LawS4566BTable'. -/
def lawS4566BTableCard : Claim7 := { stood := { row := lawS4566BTableRow, standIns := [], harness := (true, "cfcda45a4723c344872e85f21aa59bc4cfe00a881ce1cde4e7d4a3e7681e4137"), looks := false }, kinds := [], alts := [], laidByText := true, laidKinds := [.widerDeep], laidTests := true, laidLooks := .later }
def LawS4566BTableCardSaid : Prop := Claim7.holds Ybad.pinned (.plain (OpenSpec.ofChange lawS4566BTableSpec)) lawS4566BTableCard

/-- THE TIED CARD OF 'model.LawS4566BFresh'. -/
def lawS4566BFreshCard : Claim7 := { stood := { row := lawS4566BFreshRow, standIns := [], harness := (true, "cfcda45a4723c344872e85f21aa59bc4cfe00a881ce1cde4e7d4a3e7681e4137"), looks := false }, kinds := [], alts := [], laidByText := true, laidKinds := [.widerDeep], laidTests := true, laidLooks := .later }
def LawS4566BFreshCardSaid : Prop := Claim7.holds Ybad.pinned (.plain (OpenSpec.ofChange lawS4566BFreshSpec)) lawS4566BFreshCard
end Rows
end Go.Proofs.YbulkcpnqDoor
