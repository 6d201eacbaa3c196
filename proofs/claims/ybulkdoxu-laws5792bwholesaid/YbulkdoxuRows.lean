/-
  No cell of these rows narrows 'for every input' (looked for: loops, veiled, ifaces, maps, wideKeys, modest, calm, conditions, laid).
  DERIVED. THE GIVEN ROWS OF THIS SEAT. 1 by the template 'for every input the law returns true; each argument reads behind the call as it read before'; 0 by the template 'total and deterministic' (their statements: YbulkdoxuTotals.lean).
  GIVEN WITH THE SEED: the statements are not yours to turn. If you find one false, say at which input.
  Laid BY PROGRAM, IN A SANDBOX (cutbox-rows.mjs): the forced cells as the released guide's own fill.sh prints them over the translation a79382de5bd48bbf… (all of the seat's roots in one cut). By AI agents, Wed Nov 11 2026. No macro, syntax, notation, axiom, sorry.
-/
import Derived.Test.YbulkdoxuChecked
import GoSem.Claim
import GoSem.ClaimJoined
import GoSem.ClaimMapViews
import Derived.JoinedTies
import Derived.KernelRfl
namespace Go.Proofs.Ybulkdoxu
/- THE CELL 'sum', in the pinned program and in every row, IS THE sha256 OF THE DUMP (.gsa) THAT YbulkdoxuProg.lean LOADS. Nothing in Lean hashes anything: it is a label: what it is worth is what the hold of that sum in a sandbox is worth. -/
noncomputable def Yba.pinned : Pinned := { name := "ybulkdoxu", sum := "a79382de5bd48bbf0c2a0074b6c0cafca0d8f280fb4bc4dd4857dbf44a0d46b6", checked := Yba.checked }
namespace Rows
def none {H : Type} : Left H := { results := [], args := [] }

/-- 'media.LawS5792BWhole': WHATEVER THE INPUT: true; the input reads as it did. -/
def lawS5792BWholeSpec : ChangeSpec := { name := "lawS5792BWhole", fn := fun _ => fun
  | [d] => { results := [.lit (.bool true)], args := [d] }
  | _ => none }
def lawS5792BWholeRow : OpenClaim := { program := "ybulkdoxu", sum := "a79382de5bd48bbf0c2a0074b6c0cafca0d8f280fb4bc4dd4857dbf44a0d46b6", func := "example.com/sealwire/sealwire/media.LawS5792BWhole", spec := "lawS5792BWhole", apart := false }
def LawS5792BWholeSaid : Prop := lawS5792BWholeRow.holds Yba.pinned (OpenSpec.ofChange lawS5792BWholeSpec)

/-- ITS FALSE NEIGHBOUR: 'it returns false'. Refute it at one input. -/
def lawS5792BWholeWrong : ChangeSpec := { name := "lawS5792BWhole", fn := fun _ => fun
  | [d] => { results := [.lit (.bool false)], args := [d] }
  | _ => none }
def LawS5792BWholeWrongFalsely : Prop := lawS5792BWholeRow.holds Yba.pinned (OpenSpec.ofChange lawS5792BWholeWrong)

end Rows
end Go.Proofs.Ybulkdoxu
