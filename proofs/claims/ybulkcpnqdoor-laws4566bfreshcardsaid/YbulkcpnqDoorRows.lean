/-
  NARROWER THAN 'FOR EVERY INPUT', by the rows' own cells (each row's printed sentence says how): LawS4566BTable: laid · LawS4566BFresh: laid.
  DERIVED. THE GIVEN ROWS OF THIS SEAT. 2 by the template 'for every input the law returns true; each argument reads behind the call as it read before'; 0 by the template 'total and deterministic' (their statements: YbulkcpnqDoorTotals.lean).
  GIVEN WITH THE SEED: the statements are not yours to turn. If you find one false, say at which input.
  Laid BY PROGRAM, IN A SANDBOX (cutbox-rows.mjs): the forced cells as the released guide's own fill.sh prints them over the translation c07a06093b198a33… (all of the seat's roots in one cut). By AI agents, Wed Nov 11 2026. No macro, syntax, notation, axiom, sorry.
-/
import Derived.Test.YbulkcpnqDoorChecked
import GoSem.Claim
import GoSem.ClaimJoined
import GoSem.ClaimMapViews
import Derived.JoinedTies
import Derived.KernelRfl
namespace Go.Proofs.YbulkcpnqDoor
/- THE CELL 'sum', in the pinned program and in every row, IS THE sha256 OF THE DUMP (.gsa) THAT YbulkcpnqDoorProg.lean LOADS. Nothing in Lean hashes anything: it is a label: what it is worth is what the hold of that sum in a sandbox is worth. -/
noncomputable def Ybad.pinned : Pinned := { name := "ybulkcpnqdoor", sum := "c07a06093b198a33ab02b5fedd415adbde0f875e69513b0b84272b3b9ef4a801", checked := Ybad.checked }
namespace Rows
def none {H : Type} : Left H := { results := [], args := [] }

/- WHAT THE LISTED PACKAGE-LEVEL VARIABLES READ AS WHEN THE CALL BEGINS. Each datum BY PROGRAM (the guide's laid-datum.mjs) off the statement by which the dump's own 'gosem.cut.vars' lays the variable. In a bare row this is a premise. The card (YbulkcpnqDoorCards.lean) ties it to the program's text. -/
def laid_example_com_isoscope_isoscope_model_models {H : Type} : DataW H := .agg [.agg [.lit (.string []), .lit (.int .i64 0), .lit (.int .i64 0), .nil, .nil], .agg [.lit (.string [115, 105]), .lit (.int .i64 1), .lit (.int .i64 0), .slice [.lit (.string [73, 78, 84]), .lit (.string [69, 88, 84]), .lit (.string [80, 82, 69, 70, 73, 88]), .lit (.string [78, 79, 67, 79, 78, 70, 76, 73, 67, 84])] [], .slice [.lit (.string [73, 78, 84]), .lit (.string [76, 73, 83, 84, 45, 79, 82, 68, 69, 82]), .lit (.string [67, 89, 67, 76, 73, 67, 45, 68, 69, 80])] []], .agg [.lit (.string [115, 101, 115, 115, 105, 111, 110, 45, 115, 105]), .lit (.int .i64 1), .lit (.int .i64 1), .slice [.lit (.string [83, 69, 83, 83, 73, 79, 78])] [], .slice [.lit (.string [67, 89, 67, 76, 73, 67, 45, 83, 69, 83, 83, 73, 79, 78, 45, 68, 69, 80])] []], .agg [.lit (.string [114, 101, 97, 108, 116, 105, 109, 101, 45, 115, 105]), .lit (.int .i64 1), .lit (.int .i64 1), .slice [.lit (.string [82, 69, 84, 85, 82, 78, 45, 66, 69, 70, 79, 82, 69]), .lit (.string [67, 79, 77, 77, 73, 84, 45, 66, 69, 70, 79, 82, 69])] [], .nil], .agg [.lit (.string [115, 116, 114, 111, 110, 103, 45, 115, 105]), .lit (.int .i64 1), .lit (.int .i64 3), .slice [.lit (.string [73, 78, 45, 82, 69, 84, 85, 82, 78, 45, 66, 69, 70, 79, 82, 69])] [], .nil], .agg [.lit (.string [103, 115, 105]), .lit (.int .i64 1), .lit (.int .i64 1), .slice [.lit (.string [73, 78, 45, 82, 69, 84, 85, 82, 78, 45, 66, 69, 70, 79, 82, 69]), .lit (.string [67, 79, 77, 77, 73, 84, 45, 66, 69, 70, 79, 82, 69])] [], .nil], .agg [.lit (.string [99, 99]), .lit (.int .i64 2), .lit (.int .i64 0), .slice [.lit (.string [65, 66, 79, 82, 84, 69, 68, 45, 82, 69, 65, 68]), .lit (.string [84, 72, 73, 78, 45, 65, 73, 82, 45, 82, 69, 65, 68]), .lit (.string [67, 89, 67, 76, 73, 67, 45, 67, 79]), .lit (.string [87, 82, 73, 84, 69, 45, 67, 79, 45, 73, 78, 73, 84, 45, 82, 69, 65, 68]), .lit (.string [87, 82, 73, 84, 69, 45, 67, 79, 45, 87, 82, 73, 84, 69])] [], .nil], .agg [.lit (.string [99, 99, 118]), .lit (.int .i64 2), .lit (.int .i64 6), .slice [.lit (.string [67, 89, 67, 76, 73, 67, 45, 67, 70])] [], .nil], .agg [.lit (.string [99, 109]), .lit (.int .i64 2), .lit (.int .i64 6), .slice [.lit (.string [87, 82, 73, 84, 69, 45, 72, 66, 45, 73, 78, 73, 84, 45, 82, 69, 65, 68]), .lit (.string [67, 89, 67, 76, 73, 67, 45, 72, 66])] [], .nil]]

/-- 'model.LawS4566BTable': WHATEVER THE INPUT: true; the input reads as it did. -/
def lawS4566BTableSpec : ChangeSpec := { name := "lawS4566BTable", vars := ["example.com/isoscope/isoscope/model.models"], fn := fun _ => fun
  | [d, g1] => { results := [.lit (.bool true)], args := [d], vars := [g1] }
  | _ => none }
def lawS4566BTableRow : OpenClaim := { program := "ybulkcpnqdoor", sum := "c07a06093b198a33ab02b5fedd415adbde0f875e69513b0b84272b3b9ef4a801", func := "example.com/isoscope/isoscope/model.LawS4566BTable", spec := "lawS4566BTable", recurses := true, named := ["example.com/isoscope/isoscope/model.models"], apart := false, laid := [("example.com/isoscope/isoscope/model.models", laid_example_com_isoscope_isoscope_model_models)] }
def LawS4566BTableSaid : Prop := lawS4566BTableRow.holds Ybad.pinned (OpenSpec.ofChange lawS4566BTableSpec)

/-- ITS FALSE NEIGHBOUR: 'it returns false'. Refute it at one input. -/
def lawS4566BTableWrong : ChangeSpec := { name := "lawS4566BTable", vars := ["example.com/isoscope/isoscope/model.models"], fn := fun _ => fun
  | [d, g1] => { results := [.lit (.bool false)], args := [d], vars := [g1] }
  | _ => none }
def LawS4566BTableWrongFalsely : Prop := lawS4566BTableRow.holds Ybad.pinned (OpenSpec.ofChange lawS4566BTableWrong)

/-- 'model.LawS4566BFresh': WHATEVER THE INPUT: true; the input reads as it did. -/
def lawS4566BFreshSpec : ChangeSpec := { name := "lawS4566BFresh", vars := ["example.com/isoscope/isoscope/model.models"], fn := fun _ => fun
  | [d1, d2, g1] => { results := [.lit (.bool true)], args := [d1, d2], vars := [g1] }
  | _ => none }
def lawS4566BFreshRow : OpenClaim := { program := "ybulkcpnqdoor", sum := "c07a06093b198a33ab02b5fedd415adbde0f875e69513b0b84272b3b9ef4a801", func := "example.com/isoscope/isoscope/model.LawS4566BFresh", spec := "lawS4566BFresh", recurses := true, named := ["example.com/isoscope/isoscope/model.models"], apart := false, laid := [("example.com/isoscope/isoscope/model.models", laid_example_com_isoscope_isoscope_model_models)] }
def LawS4566BFreshSaid : Prop := lawS4566BFreshRow.holds Ybad.pinned (OpenSpec.ofChange lawS4566BFreshSpec)

/-- ITS FALSE NEIGHBOUR: 'it returns false'. Refute it at one input. -/
def lawS4566BFreshWrong : ChangeSpec := { name := "lawS4566BFresh", vars := ["example.com/isoscope/isoscope/model.models"], fn := fun _ => fun
  | [d1, d2, g1] => { results := [.lit (.bool false)], args := [d1, d2], vars := [g1] }
  | _ => none }
def LawS4566BFreshWrongFalsely : Prop := lawS4566BFreshRow.holds Ybad.pinned (OpenSpec.ofChange lawS4566BFreshWrong)

end Rows
end Go.Proofs.YbulkcpnqDoor
