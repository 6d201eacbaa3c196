/-
  No cell of these rows narrows 'for every input' (looked for: loops, veiled, ifaces, maps, wideKeys, modest, calm, conditions, laid).
  DERIVED. THE GIVEN ROWS OF THIS SEAT. 4 by the template 'for every input the law returns true; each argument reads behind the call as it read before'; 0 by the template 'total and deterministic' (their statements: YbulkdoywTotals.lean).
  GIVEN WITH THE SEED: the statements are not yours to turn. If you find one false, say at which input.
  Laid BY PROGRAM, IN A SANDBOX (cutbox-rows.mjs): the forced cells as the released guide's own fill.sh prints them over the translation 7eaa0e5cbe69c149… (all of the seat's roots in one cut). By AI agents, Wed Nov 11 2026. No macro, syntax, notation, axiom, sorry.
-/
import Derived.Test.YbulkdoywChecked
import GoSem.Claim
import GoSem.ClaimJoined
import GoSem.ClaimMapViews
import Derived.JoinedTies
import Derived.KernelRfl
namespace Go.Proofs.Ybulkdoyw
/- THE CELL 'sum', in the pinned program and in every row, IS THE sha256 OF THE DUMP (.gsa) THAT YbulkdoywProg.lean LOADS. Nothing in Lean hashes anything: it is a label: what it is worth is what the hold of that sum in a sandbox is worth. -/
noncomputable def Yba.pinned : Pinned := { name := "ybulkdoyw", sum := "7eaa0e5cbe69c149b379a30ef3902de72a82c171e1a3078217f9fd529def9c6b", checked := Yba.checked }
namespace Rows
def none {H : Type} : Left H := { results := [], args := [] }

/-- 'node.LawS5794AWhole': WHATEVER THE INPUT: true; the input reads as it did. -/
def lawS5794AWholeSpec : ChangeSpec := { name := "lawS5794AWhole", fn := fun _ => fun
  | [d1, d2, d3, d4, d5, d6] => { results := [.lit (.bool true)], args := [d1, d2, d3, d4, d5, d6] }
  | _ => none }
def lawS5794AWholeRow : OpenClaim := { program := "ybulkdoyw", sum := "7eaa0e5cbe69c149b379a30ef3902de72a82c171e1a3078217f9fd529def9c6b", func := "example.com/synodic/synodic/internal/node.LawS5794AWhole", spec := "lawS5794AWhole", inPlace := ["sync/atomic.LoadUint32"], unfollowed := true, recurses := true, apart := false }
def LawS5794AWholeSaid : Prop := lawS5794AWholeRow.holds Yba.pinned (OpenSpec.ofChange lawS5794AWholeSpec)

/-- ITS FALSE NEIGHBOUR: 'it returns false'. Refute it at one input. -/
def lawS5794AWholeWrong : ChangeSpec := { name := "lawS5794AWhole", fn := fun _ => fun
  | [d1, d2, d3, d4, d5, d6] => { results := [.lit (.bool false)], args := [d1, d2, d3, d4, d5, d6] }
  | _ => none }
def LawS5794AWholeWrongFalsely : Prop := lawS5794AWholeRow.holds Yba.pinned (OpenSpec.ofChange lawS5794AWholeWrong)

/-- 'node.LawS5794AScript': WHATEVER THE INPUT: true; the input reads as it did. -/
def lawS5794AScriptSpec : ChangeSpec := { name := "lawS5794AScript", fn := fun _ => fun
  | [d1, d2] => { results := [.lit (.bool true)], args := [d1, d2] }
  | _ => none }
def lawS5794AScriptRow : OpenClaim := { program := "ybulkdoyw", sum := "7eaa0e5cbe69c149b379a30ef3902de72a82c171e1a3078217f9fd529def9c6b", func := "example.com/synodic/synodic/internal/node.LawS5794AScript", spec := "lawS5794AScript", unfollowed := true, recurses := true, apart := false }
def LawS5794AScriptSaid : Prop := lawS5794AScriptRow.holds Yba.pinned (OpenSpec.ofChange lawS5794AScriptSpec)

/-- ITS FALSE NEIGHBOUR: 'it returns false'. Refute it at one input. -/
def lawS5794AScriptWrong : ChangeSpec := { name := "lawS5794AScript", fn := fun _ => fun
  | [d1, d2] => { results := [.lit (.bool false)], args := [d1, d2] }
  | _ => none }
def LawS5794AScriptWrongFalsely : Prop := lawS5794AScriptRow.holds Yba.pinned (OpenSpec.ofChange lawS5794AScriptWrong)

/-- 'node.LawS5794CWhole': WHATEVER THE INPUT: true; the input reads as it did. -/
def lawS5794CWholeSpec : ChangeSpec := { name := "lawS5794CWhole", fn := fun _ => fun
  | [d1, d2] => { results := [.lit (.bool true)], args := [d1, d2] }
  | _ => none }
def lawS5794CWholeRow : OpenClaim := { program := "ybulkdoyw", sum := "7eaa0e5cbe69c149b379a30ef3902de72a82c171e1a3078217f9fd529def9c6b", func := "example.com/synodic/synodic/internal/node.LawS5794CWhole", spec := "lawS5794CWhole", inPlace := ["(*internal/sync.Mutex).Lock", "internal/race.Disable", "sync/atomic.CompareAndSwapInt32", "internal/race.Enable", "internal/race.Acquire", "(*internal/sync.Mutex).lockSlow", "internal/sync.runtime_canSpin", "internal/sync.runtime_doSpin", "internal/sync.throw", "internal/sync.runtime_nanotime", "internal/sync.runtime_SemacquireMutex", "sync/atomic.AddInt32", "(*internal/sync.Mutex).Unlock", "internal/race.ReleaseMerge", "(*internal/sync.Mutex).unlockSlow", "internal/sync.fatal", "internal/sync.runtime_Semrelease", "(*internal/sync.Mutex).TryLock"], apart := false }
def LawS5794CWholeSaid : Prop := lawS5794CWholeRow.holds Yba.pinned (OpenSpec.ofChange lawS5794CWholeSpec)

/-- ITS FALSE NEIGHBOUR: 'it returns false'. Refute it at one input. -/
def lawS5794CWholeWrong : ChangeSpec := { name := "lawS5794CWhole", fn := fun _ => fun
  | [d1, d2] => { results := [.lit (.bool false)], args := [d1, d2] }
  | _ => none }
def LawS5794CWholeWrongFalsely : Prop := lawS5794CWholeRow.holds Yba.pinned (OpenSpec.ofChange lawS5794CWholeWrong)

/-- 'node.LawS5794CScript': WHATEVER THE INPUT: true; the input reads as it did. -/
def lawS5794CScriptSpec : ChangeSpec := { name := "lawS5794CScript", fn := fun _ => fun
  | [d1, d2] => { results := [.lit (.bool true)], args := [d1, d2] }
  | _ => none }
def lawS5794CScriptRow : OpenClaim := { program := "ybulkdoyw", sum := "7eaa0e5cbe69c149b379a30ef3902de72a82c171e1a3078217f9fd529def9c6b", func := "example.com/synodic/synodic/internal/node.LawS5794CScript", spec := "lawS5794CScript", inPlace := ["(*internal/sync.Mutex).Lock", "internal/race.Disable", "sync/atomic.CompareAndSwapInt32", "internal/race.Enable", "internal/race.Acquire", "(*internal/sync.Mutex).lockSlow", "internal/sync.runtime_canSpin", "internal/sync.runtime_doSpin", "internal/sync.throw", "internal/sync.runtime_nanotime", "internal/sync.runtime_SemacquireMutex", "sync/atomic.AddInt32", "(*internal/sync.Mutex).Unlock", "internal/race.ReleaseMerge", "(*internal/sync.Mutex).unlockSlow", "internal/sync.fatal", "internal/sync.runtime_Semrelease", "(*sync.Cond).Broadcast", "(*sync.copyChecker).check", "sync.runtime_notifyListNotifyAll", "(*internal/sync.Mutex).TryLock"], apart := false }
def LawS5794CScriptSaid : Prop := lawS5794CScriptRow.holds Yba.pinned (OpenSpec.ofChange lawS5794CScriptSpec)

/-- ITS FALSE NEIGHBOUR: 'it returns false'. Refute it at one input. -/
def lawS5794CScriptWrong : ChangeSpec := { name := "lawS5794CScript", fn := fun _ => fun
  | [d1, d2] => { results := [.lit (.bool false)], args := [d1, d2] }
  | _ => none }
def LawS5794CScriptWrongFalsely : Prop := lawS5794CScriptRow.holds Yba.pinned (OpenSpec.ofChange lawS5794CScriptWrong)

end Rows
end Go.Proofs.Ybulkdoyw
