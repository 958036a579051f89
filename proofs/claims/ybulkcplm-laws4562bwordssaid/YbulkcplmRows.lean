/-
  No cell of these rows narrows 'for every input' (looked for: loops, veiled, ifaces, maps, wideKeys, modest, calm, conditions, laid).
  DERIVED. THE GIVEN ROWS OF THIS SEAT. 3 by the template 'for every input the law returns true; each argument reads behind the call as it read before'; 0 by the template 'total and deterministic' (their statements: YbulkcplmTotals.lean).
  GIVEN WITH THE SEED: the statements are not yours to turn. If you find one false, say at which input.
  Laid BY PROGRAM, IN A SANDBOX (cutbox-rows.mjs): the forced cells as the released guide's own fill.sh prints them over the translation ca3a2ae3a38f15a9… (all of the seat's roots in one cut). By AI agents, Wed Nov 11 2026. No macro, syntax, notation, axiom, sorry.
-/
import Derived.Test.YbulkcplmChecked
import GoSem.Claim
import GoSem.ClaimJoined
import GoSem.ClaimMapViews
import Derived.JoinedTies
import Derived.KernelRfl
namespace Go.Proofs.Ybulkcplm
/- THE CELL 'sum', in the pinned program and in every row, IS THE sha256 OF THE DUMP (.gsa) THAT YbulkcplmProg.lean LOADS. Nothing in Lean hashes anything: it is a label: what it is worth is what the hold of that sum in a sandbox is worth. -/
noncomputable def Yba.pinned : Pinned := { name := "ybulkcplm", sum := "ca3a2ae3a38f15a99a88168c681a811858d8e11b8cff44c5181eb4fe02c74e26", checked := Yba.checked }
namespace Rows
def none {H : Type} : Left H := { results := [], args := [] }

/-- 'wire.LawS4562AFields': WHATEVER THE INPUT: true; the input reads as it did. -/
def lawS4562AFieldsSpec : ChangeSpec := { name := "lawS4562AFields", fn := fun _ => fun
  | [d1, d2, d3, d4] => { results := [.lit (.bool true)], args := [d1, d2, d3, d4] }
  | _ => none }
def lawS4562AFieldsRow : OpenClaim := { program := "ybulkcplm", sum := "ca3a2ae3a38f15a99a88168c681a811858d8e11b8cff44c5181eb4fe02c74e26", func := "example.com/speakwell/speakwell/pkg/wire.LawS4562AFields", spec := "lawS4562AFields", apart := false }
def LawS4562AFieldsSaid : Prop := lawS4562AFieldsRow.holds Yba.pinned (OpenSpec.ofChange lawS4562AFieldsSpec)

/-- ITS FALSE NEIGHBOUR: 'it returns false'. Refute it at one input. -/
def lawS4562AFieldsWrong : ChangeSpec := { name := "lawS4562AFields", fn := fun _ => fun
  | [d1, d2, d3, d4] => { results := [.lit (.bool false)], args := [d1, d2, d3, d4] }
  | _ => none }
def LawS4562AFieldsWrongFalsely : Prop := lawS4562AFieldsRow.holds Yba.pinned (OpenSpec.ofChange lawS4562AFieldsWrong)

/-- 'wire.LawS4562BCalls': WHATEVER THE INPUT: true; the input reads as it did. -/
def lawS4562BCallsSpec : ChangeSpec := { name := "lawS4562BCalls", fn := fun _ => fun
  | [d1, d2] => { results := [.lit (.bool true)], args := [d1, d2] }
  | _ => none }
def lawS4562BCallsRow : OpenClaim := { program := "ybulkcplm", sum := "ca3a2ae3a38f15a99a88168c681a811858d8e11b8cff44c5181eb4fe02c74e26", func := "example.com/speakwell/speakwell/pkg/wire.LawS4562BCalls", spec := "lawS4562BCalls", unfollowed := true, recurses := true, apart := false }
def LawS4562BCallsSaid : Prop := lawS4562BCallsRow.holds Yba.pinned (OpenSpec.ofChange lawS4562BCallsSpec)

/-- ITS FALSE NEIGHBOUR: 'it returns false'. Refute it at one input. -/
def lawS4562BCallsWrong : ChangeSpec := { name := "lawS4562BCalls", fn := fun _ => fun
  | [d1, d2] => { results := [.lit (.bool false)], args := [d1, d2] }
  | _ => none }
def LawS4562BCallsWrongFalsely : Prop := lawS4562BCallsRow.holds Yba.pinned (OpenSpec.ofChange lawS4562BCallsWrong)

/-- 'wire.LawS4562BWords': WHATEVER THE INPUT: true; the input reads as it did. -/
def lawS4562BWordsSpec : ChangeSpec := { name := "lawS4562BWords", fn := fun _ => fun
  | [d] => { results := [.lit (.bool true)], args := [d] }
  | _ => none }
def lawS4562BWordsRow : OpenClaim := { program := "ybulkcplm", sum := "ca3a2ae3a38f15a99a88168c681a811858d8e11b8cff44c5181eb4fe02c74e26", func := "example.com/speakwell/speakwell/pkg/wire.LawS4562BWords", spec := "lawS4562BWords", unfollowed := true, recurses := true, named := ["encoding/binary.BigEndian"], apart := false }
def LawS4562BWordsSaid : Prop := lawS4562BWordsRow.holds Yba.pinned (OpenSpec.ofChange lawS4562BWordsSpec)

/-- ITS FALSE NEIGHBOUR: 'it returns false'. Refute it at one input. -/
def lawS4562BWordsWrong : ChangeSpec := { name := "lawS4562BWords", fn := fun _ => fun
  | [d] => { results := [.lit (.bool false)], args := [d] }
  | _ => none }
def LawS4562BWordsWrongFalsely : Prop := lawS4562BWordsRow.holds Yba.pinned (OpenSpec.ofChange lawS4562BWordsWrong)

end Rows
end Go.Proofs.Ybulkcplm
