/-
  No cell of these rows narrows 'for every input' (looked for: loops, veiled, ifaces, maps, wideKeys, modest, calm, conditions, laid).
  DERIVED. THE GIVEN ROWS OF THIS SEAT. 1 by the template 'for every input the law returns true; each argument reads behind the call as it read before'; 0 by the template 'total and deterministic' (their statements: YbulkcptoTotals.lean).
  GIVEN WITH THE SEED: the statements are not yours to turn. If you find one false, say at which input.
  Laid BY PROGRAM, IN A SANDBOX (cutbox-rows.mjs): the forced cells as the released guide's own fill.sh prints them over the translation 295c698de2e375c8… (all of the seat's roots in one cut). By AI agents, Wed Nov 11 2026. No macro, syntax, notation, axiom, sorry.
-/
import Derived.Test.YbulkcptoChecked
import GoSem.Claim
import GoSem.ClaimJoined
import GoSem.ClaimMapViews
import Derived.JoinedTies
import Derived.KernelRfl
namespace Go.Proofs.Ybulkcpto
/- THE CELL 'sum', in the pinned program and in every row, IS THE sha256 OF THE DUMP (.gsa) THAT YbulkcptoProg.lean LOADS. Nothing in Lean hashes anything: it is a label: what it is worth is what the hold of that sum in a sandbox is worth. -/
noncomputable def Yba.pinned : Pinned := { name := "ybulkcpto", sum := "295c698de2e375c85eb836e5339824b5a9c3cd7bf7df912246e641e815cb2878", checked := Yba.checked }
namespace Rows
def none {H : Type} : Left H := { results := [], args := [] }

/-- 'palimpsest.LawS4577CListsDeclared': WHATEVER THE INPUT: true; the input reads as it did. -/
def lawS4577CListsDeclaredSpec : ChangeSpec := { name := "lawS4577CListsDeclared", fn := fun _ => fun
  | [d1, d2] => { results := [.lit (.bool true)], args := [d1, d2] }
  | _ => none }
def lawS4577CListsDeclaredRow : OpenClaim := { program := "ybulkcpto", sum := "295c698de2e375c85eb836e5339824b5a9c3cd7bf7df912246e641e815cb2878", func := "example.com/palimpsest/palimpsest.LawS4577CListsDeclared", spec := "lawS4577CListsDeclared", inPlace := ["internal/bytealg.abigen_runtime_cmpstring"], unfollowed := true, recurses := true, apart := false }
def LawS4577CListsDeclaredSaid : Prop := lawS4577CListsDeclaredRow.holds Yba.pinned (OpenSpec.ofChange lawS4577CListsDeclaredSpec)

/-- ITS FALSE NEIGHBOUR: 'it returns false'. Refute it at one input. -/
def lawS4577CListsDeclaredWrong : ChangeSpec := { name := "lawS4577CListsDeclared", fn := fun _ => fun
  | [d1, d2] => { results := [.lit (.bool false)], args := [d1, d2] }
  | _ => none }
def LawS4577CListsDeclaredWrongFalsely : Prop := lawS4577CListsDeclaredRow.holds Yba.pinned (OpenSpec.ofChange lawS4577CListsDeclaredWrong)

end Rows
end Go.Proofs.Ybulkcpto
