/-
  DERIVED. GIVEN WITH THE SEED: THE CARDS: each row of YbulkcplmDoorRows.lean that lists a variable, with what it lists TIED to the program's text (the seventh form; the later family's looks); each row that meets fmt, with fmt's text TOLD by the authors' own Lean function (tested against real Go, not proved from fmt's source: count such statements apart). THE CARD IS WHAT COUNTS. Prove the row's statement (the work); the ties are given (YbulkcplmDoorTie.lean); close each card by the builder's one call (the guide's Derived/Test/ToyasCard.lean, 'card_holds'). Laid BY PROGRAM, IN A SANDBOX (cutbox-door.mjs). By AI agents, Wed Nov 11 2026. No macro, syntax, notation, axiom, sorry.
-/
import Derived.Test.YbulkcplmDoorRows
import GoSem.ClaimSeven
namespace Go.Proofs.YbulkcplmDoor
namespace Rows

/-- THE TIED CARD OF 'session.LawS4562CRole'. -/
def lawS4562CRoleCard : Claim7 := { stood := { row := lawS4562CRoleRow, standIns := [], harness := (true, "253305561e9fbc33fd1b90b410bcaf188225225aa1b8d3e1a6995fae33147616"), looks := false }, kinds := [], alts := [], laidByText := true, laidKinds := [.mapped, .mapped], laidTests := true, laidLooks := .later }
def LawS4562CRoleCardSaid : Prop := Claim7.holds Ybad.pinned (.plain (OpenSpec.ofChange lawS4562CRoleSpec)) lawS4562CRoleCard

/-- THE TIED CARD OF 'session.LawS4562CRefuse'. -/
def lawS4562CRefuseCard : Claim7 := { stood := { row := lawS4562CRefuseRow, standIns := [], harness := (true, "253305561e9fbc33fd1b90b410bcaf188225225aa1b8d3e1a6995fae33147616"), looks := false }, kinds := [], alts := [], laidByText := true, laidKinds := [.mapped, .mapped], laidTests := true, laidLooks := .later }
def LawS4562CRefuseCardSaid : Prop := Claim7.holds Ybad.pinned (.plain (OpenSpec.ofChange lawS4562CRefuseSpec)) lawS4562CRefuseCard
end Rows
end Go.Proofs.YbulkcplmDoor
