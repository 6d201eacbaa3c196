/-
  No cell of these rows narrows 'for every input' (looked for: loops, veiled, ifaces, maps, wideKeys, modest, calm, conditions, laid).
  DERIVED. THE GIVEN ROWS OF THIS SEAT. 1 by the template 'for every input the law returns true; each argument reads behind the call as it read before'; 0 by the template 'total and deterministic' (their statements: YbulkdouoTotals.lean).
  GIVEN WITH THE SEED: the statements are not yours to turn. If you find one false, say at which input.
  Laid BY PROGRAM, IN A SANDBOX (cutbox-rows.mjs): the forced cells as the released guide's own fill.sh prints them over the translation c80af21b4f7d2f68… (all of the seat's roots in one cut). By AI agents, Wed Nov 11 2026. No macro, syntax, notation, axiom, sorry.
-/
import Derived.Test.YbulkdouoChecked
import GoSem.Claim
import GoSem.ClaimJoined
import GoSem.ClaimMapViews
import Derived.JoinedTies
import Derived.KernelRfl
namespace Go.Proofs.Ybulkdouo
/- THE CELL 'sum', in the pinned program and in every row, IS THE sha256 OF THE DUMP (.gsa) THAT YbulkdouoProg.lean LOADS. Nothing in Lean hashes anything: it is a label: what it is worth is what the hold of that sum in a sandbox is worth. -/
noncomputable def Yba.pinned : Pinned := { name := "ybulkdouo", sum := "c80af21b4f7d2f68cffc77d3cdd85a2e7d92b42aea2d989d69b3d2b1b8e82891", checked := Yba.checked }
namespace Rows
def none {H : Type} : Left H := { results := [], args := [] }

/-- 'seqcast.LawS5786APart': WHATEVER THE INPUT: true; the input reads as it did. -/
def lawS5786APartSpec : ChangeSpec := { name := "lawS5786APart", fn := fun _ => fun
  | [d1, d2, d3, d4, d5, d6] => { results := [.lit (.bool true)], args := [d1, d2, d3, d4, d5, d6] }
  | _ => none }
def lawS5786APartRow : OpenClaim := { program := "ybulkdouo", sum := "c80af21b4f7d2f68cffc77d3cdd85a2e7d92b42aea2d989d69b3d2b1b8e82891", func := "example.com/seqcast/seqcast.LawS5786APart", spec := "lawS5786APart", plainKeys := false, apart := false }
def LawS5786APartSaid : Prop := lawS5786APartRow.holds Yba.pinned (OpenSpec.ofChange lawS5786APartSpec)

/-- ITS FALSE NEIGHBOUR: 'it returns false'. Refute it at one input. -/
def lawS5786APartWrong : ChangeSpec := { name := "lawS5786APart", fn := fun _ => fun
  | [d1, d2, d3, d4, d5, d6] => { results := [.lit (.bool false)], args := [d1, d2, d3, d4, d5, d6] }
  | _ => none }
def LawS5786APartWrongFalsely : Prop := lawS5786APartRow.holds Yba.pinned (OpenSpec.ofChange lawS5786APartWrong)

end Rows
end Go.Proofs.Ybulkdouo
