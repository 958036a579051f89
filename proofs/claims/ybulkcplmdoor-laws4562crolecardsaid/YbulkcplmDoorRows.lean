/-
  NARROWER THAN 'FOR EVERY INPUT', by the rows' own cells (each row's printed sentence says how): LawS4562CRole: maps, laid · LawS4562CRefuse: maps, laid.
  DERIVED. THE GIVEN ROWS OF THIS SEAT. 2 by the template 'for every input the law returns true; each argument reads behind the call as it read before'; 0 by the template 'total and deterministic' (their statements: YbulkcplmDoorTotals.lean).
  GIVEN WITH THE SEED: the statements are not yours to turn. If you find one false, say at which input.
  Laid BY PROGRAM, IN A SANDBOX (cutbox-rows.mjs): the forced cells as the released guide's own fill.sh prints them over the translation 857b71fe27459bb1… (all of the seat's roots in one cut). By AI agents, Wed Nov 11 2026. No macro, syntax, notation, axiom, sorry.
-/
import Derived.Test.YbulkcplmDoorChecked
import GoSem.Claim
import GoSem.ClaimJoined
import GoSem.ClaimMapViews
import Derived.JoinedTies
import Derived.KernelRfl
namespace Go.Proofs.YbulkcplmDoor
/- THE CELL 'sum', in the pinned program and in every row, IS THE sha256 OF THE DUMP (.gsa) THAT YbulkcplmDoorProg.lean LOADS. Nothing in Lean hashes anything: it is a label: what it is worth is what the hold of that sum in a sandbox is worth. -/
noncomputable def Ybad.pinned : Pinned := { name := "ybulkcplmdoor", sum := "857b71fe27459bb16820551538513c89a3e4437e6384f795d08ad109e27d2563", checked := Ybad.checked }
namespace Rows
def none {H : Type} : Left H := { results := [], args := [] }

/- WHAT THE LISTED PACKAGE-LEVEL VARIABLES READ AS WHEN THE CALL BEGINS. Each datum BY PROGRAM (the guide's laid-datum.mjs) off the statement by which the dump's own 'gosem.cut.vars' lays the variable. In a bare row this is a premise. The card (YbulkcplmDoorCards.lean) ties it to the program's text. -/
def laid_example_com_speakwell_speakwell_pkg_wire_counterparts {H : Type} : DataW H := .map [(.int .u8 0, .lit (.int .u8 3)), (.int .u8 1, .lit (.int .u8 2)), (.int .u8 2, .lit (.int .u8 1)), (.int .u8 3, .lit (.int .u8 0)), (.int .u8 4, .lit (.int .u8 4))]
def laid_example_com_speakwell_speakwell_pkg_session_wireRoles {H : Type} : DataW H := .map [(.string [99, 117, 115, 116, 111, 109, 101, 114], .lit (.int .u8 3)), (.string [112, 101, 101, 114], .lit (.int .u8 4)), (.string [112, 114, 111, 118, 105, 100, 101, 114], .lit (.int .u8 0)), (.string [114, 115], .lit (.int .u8 1)), (.string [114, 115, 45, 99, 108, 105, 101, 110, 116], .lit (.int .u8 2))]

/-- 'session.LawS4562CRole': WHATEVER THE INPUT: true; the input reads as it did. -/
def lawS4562CRoleSpec : ChangeSpec := { name := "lawS4562CRole", vars := ["example.com/speakwell/speakwell/pkg/session.wireRoles", "example.com/speakwell/speakwell/pkg/wire.counterparts"], fn := fun _ => fun
  | [d1, d2, d3, d4, g1, g2] => { results := [.lit (.bool true)], args := [d1, d2, d3, d4], vars := [g1, g2] }
  | _ => none }
def lawS4562CRoleRow : OpenClaim := { program := "ybulkcplmdoor", sum := "857b71fe27459bb16820551538513c89a3e4437e6384f795d08ad109e27d2563", func := "example.com/speakwell/speakwell/pkg/session.LawS4562CRole", spec := "lawS4562CRole", named := ["example.com/speakwell/speakwell/pkg/session.wireRoles", "example.com/speakwell/speakwell/pkg/wire.counterparts"], maps := true, apart := false, laid := [("example.com/speakwell/speakwell/pkg/wire.counterparts", laid_example_com_speakwell_speakwell_pkg_wire_counterparts), ("example.com/speakwell/speakwell/pkg/session.wireRoles", laid_example_com_speakwell_speakwell_pkg_session_wireRoles)] }
def LawS4562CRoleSaid : Prop := lawS4562CRoleRow.holds Ybad.pinned (OpenSpec.ofChange lawS4562CRoleSpec)

/-- ITS FALSE NEIGHBOUR: 'it returns false'. Refute it at one input. -/
def lawS4562CRoleWrong : ChangeSpec := { name := "lawS4562CRole", vars := ["example.com/speakwell/speakwell/pkg/session.wireRoles", "example.com/speakwell/speakwell/pkg/wire.counterparts"], fn := fun _ => fun
  | [d1, d2, d3, d4, g1, g2] => { results := [.lit (.bool false)], args := [d1, d2, d3, d4], vars := [g1, g2] }
  | _ => none }
def LawS4562CRoleWrongFalsely : Prop := lawS4562CRoleRow.holds Ybad.pinned (OpenSpec.ofChange lawS4562CRoleWrong)

/-- 'session.LawS4562CRefuse': WHATEVER THE INPUT: true; the input reads as it did. -/
def lawS4562CRefuseSpec : ChangeSpec := { name := "lawS4562CRefuse", vars := ["example.com/speakwell/speakwell/pkg/session.wireRoles", "example.com/speakwell/speakwell/pkg/wire.counterparts"], fn := fun _ => fun
  | [d, g1, g2] => { results := [.lit (.bool true)], args := [d], vars := [g1, g2] }
  | _ => none }
def lawS4562CRefuseRow : OpenClaim := { program := "ybulkcplmdoor", sum := "857b71fe27459bb16820551538513c89a3e4437e6384f795d08ad109e27d2563", func := "example.com/speakwell/speakwell/pkg/session.LawS4562CRefuse", spec := "lawS4562CRefuse", named := ["example.com/speakwell/speakwell/pkg/session.wireRoles", "example.com/speakwell/speakwell/pkg/wire.counterparts"], maps := true, apart := false, laid := [("example.com/speakwell/speakwell/pkg/wire.counterparts", laid_example_com_speakwell_speakwell_pkg_wire_counterparts), ("example.com/speakwell/speakwell/pkg/session.wireRoles", laid_example_com_speakwell_speakwell_pkg_session_wireRoles)] }
def LawS4562CRefuseSaid : Prop := lawS4562CRefuseRow.holds Ybad.pinned (OpenSpec.ofChange lawS4562CRefuseSpec)

/-- ITS FALSE NEIGHBOUR: 'it returns false'. Refute it at one input. -/
def lawS4562CRefuseWrong : ChangeSpec := { name := "lawS4562CRefuse", vars := ["example.com/speakwell/speakwell/pkg/session.wireRoles", "example.com/speakwell/speakwell/pkg/wire.counterparts"], fn := fun _ => fun
  | [d, g1, g2] => { results := [.lit (.bool false)], args := [d], vars := [g1, g2] }
  | _ => none }
def LawS4562CRefuseWrongFalsely : Prop := lawS4562CRefuseRow.holds Ybad.pinned (OpenSpec.ofChange lawS4562CRefuseWrong)

end Rows
end Go.Proofs.YbulkcplmDoor
