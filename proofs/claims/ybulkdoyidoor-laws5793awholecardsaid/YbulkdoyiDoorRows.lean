/-
  NARROWER THAN 'FOR EVERY INPUT', by the rows' own cells (each row's printed sentence says how): LawS5793AWhole: ifaces, laid.
  DERIVED. THE GIVEN ROWS OF THIS SEAT. 1 by the template 'for every input the law returns true; each argument reads behind the call as it read before'; 0 by the template 'total and deterministic' (their statements: YbulkdoyiDoorTotals.lean).
  GIVEN WITH THE SEED: the statements are not yours to turn. If you find one false, say at which input.
  Laid BY PROGRAM, IN A SANDBOX (cutbox-rows.mjs): the forced cells as the released guide's own fill.sh prints them over the translation 994e39c5b27f6be2… (all of the seat's roots in one cut). By AI agents, Wed Nov 11 2026. No macro, syntax, notation, axiom, sorry.
-/
import Derived.Test.YbulkdoyiDoorChecked
import GoSem.Claim
import GoSem.ClaimJoined
import GoSem.ClaimMapViews
import Derived.JoinedTies
import Derived.KernelRfl
namespace Go.Proofs.YbulkdoyiDoor
/- THE CELL 'sum', in the pinned program and in every row, IS THE sha256 OF THE DUMP (.gsa) THAT YbulkdoyiDoorProg.lean LOADS. Nothing in Lean hashes anything: it is a label: what it is worth is what the hold of that sum in a sandbox is worth. -/
noncomputable def Ybad.pinned : Pinned := { name := "ybulkdoyidoor", sum := "994e39c5b27f6be2d67cddd14ceac5ca168ddd7ba876abc5a3c9acd5af08a065", checked := Ybad.checked }
namespace Rows
def none {H : Type} : Left H := { results := [], args := [] }

/- WHAT THE LISTED PACKAGE-LEVEL VARIABLES READ AS WHEN THE CALL BEGINS. Each datum BY PROGRAM (the guide's laid-datum.mjs) off the statement by which the dump's own 'gosem.cut.vars' lays the variable. In a bare row this is a premise. The card (YbulkdoyiDoorCards.lean) ties it to the program's text. -/
def laid_example_com_kifuvault_kifuvault_vault_errOverrun {H : Type} : DataW H := .iface "*errors.errorString" (.ptr (.agg [.lit (.string [116, 104, 101, 32, 99, 111, 100, 101, 100, 32, 103, 97, 109, 101, 32, 114, 117, 110, 115, 32, 112, 97, 115, 116, 32, 116, 104, 101, 32, 101, 110, 100, 32, 111, 102, 32, 105, 116, 115, 32, 114, 101, 99, 111, 114, 100])]))
def laid_example_com_kifuvault_kifuvault_vault_errCorruptCode {H : Type} : DataW H := .iface "*errors.errorString" (.ptr (.agg [.lit (.string [116, 104, 101, 32, 99, 111, 100, 101, 100, 32, 103, 97, 109, 101, 32, 104, 111, 108, 100, 115, 32, 97, 32, 110, 117, 109, 98, 101, 114, 32, 110, 111, 32, 115, 121, 109, 98, 111, 108, 32, 104, 97, 115])]))

/-- 'vault.LawS5793AWhole': WHATEVER THE INPUT: true; the input reads as it did. -/
def lawS5793AWholeSpec : ChangeSpec := { name := "lawS5793AWhole", vars := ["example.com/kifuvault/kifuvault/vault.errCorruptCode", "example.com/kifuvault/kifuvault/vault.errOverrun"], fn := fun _ => fun
  | [d1, d2, d3, d4, d5, d6, g1, g2] => { results := [.lit (.bool true)], args := [d1, d2, d3, d4, d5, d6], vars := [g1, g2] }
  | _ => none }
def lawS5793AWholeRow : OpenClaim := { program := "ybulkdoyidoor", sum := "994e39c5b27f6be2d67cddd14ceac5ca168ddd7ba876abc5a3c9acd5af08a065", func := "example.com/kifuvault/kifuvault/vault.LawS5793AWhole", spec := "lawS5793AWhole", named := ["example.com/kifuvault/kifuvault/vault.errCorruptCode", "example.com/kifuvault/kifuvault/vault.errOverrun"], ifaces := true, apart := false, laid := [("example.com/kifuvault/kifuvault/vault.errOverrun", laid_example_com_kifuvault_kifuvault_vault_errOverrun), ("example.com/kifuvault/kifuvault/vault.errCorruptCode", laid_example_com_kifuvault_kifuvault_vault_errCorruptCode)] }
def LawS5793AWholeSaid : Prop := lawS5793AWholeRow.holds Ybad.pinned (OpenSpec.ofChange lawS5793AWholeSpec)

/-- ITS FALSE NEIGHBOUR: 'it returns false'. Refute it at one input. -/
def lawS5793AWholeWrong : ChangeSpec := { name := "lawS5793AWhole", vars := ["example.com/kifuvault/kifuvault/vault.errCorruptCode", "example.com/kifuvault/kifuvault/vault.errOverrun"], fn := fun _ => fun
  | [d1, d2, d3, d4, d5, d6, g1, g2] => { results := [.lit (.bool false)], args := [d1, d2, d3, d4, d5, d6], vars := [g1, g2] }
  | _ => none }
def LawS5793AWholeWrongFalsely : Prop := lawS5793AWholeRow.holds Ybad.pinned (OpenSpec.ofChange lawS5793AWholeWrong)

end Rows
end Go.Proofs.YbulkdoyiDoor
