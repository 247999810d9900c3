/-
  No cell of these rows narrows 'for every input' (looked for: loops, veiled, ifaces, maps, wideKeys, modest, calm, conditions, laid).
  DERIVED. THE GIVEN ROWS OF THIS SEAT. 2 by the template 'for every input the law returns true; each argument reads behind the call as it read before'; 0 by the template 'total and deterministic' (their statements: YbulkcunkTotals.lean).
  GIVEN WITH THE SEED: the statements are not yours to turn. If you find one false, say at which input.
  Laid BY PROGRAM, IN A SANDBOX (cutbox-rows.mjs): the forced cells as the released guide's own fill.sh prints them over the translation 05c8af7b2250baeb… (all of the seat's roots in one cut). By AI agents, Wed Nov 11 2026. No macro, syntax, notation, axiom, sorry.
-/
import Derived.Test.YbulkcunkChecked
import GoSem.Claim
import GoSem.ClaimJoined
import GoSem.ClaimMapViews
import Derived.JoinedTies
import Derived.KernelRfl
namespace Go.Proofs.Ybulkcunk
/- THE CELL 'sum', in the pinned program and in every row, IS THE sha256 OF THE DUMP (.gsa) THAT YbulkcunkProg.lean LOADS. Nothing in Lean hashes anything: it is a label: what it is worth is what the hold of that sum in a sandbox is worth. -/
noncomputable def Yba.pinned : Pinned := { name := "ybulkcunk", sum := "05c8af7b2250baeb15c365e444cd6aaf5b8cb7e5028eae73753c11b177ebffeb", checked := Yba.checked }
namespace Rows
def none {H : Type} : Left H := { results := [], args := [] }

/-- 'worq.LawS4807AScript': WHATEVER THE INPUT: true; the input reads as it did. -/
def lawS4807AScriptSpec : ChangeSpec := { name := "lawS4807AScript", fn := fun _ => fun
  | [d] => { results := [.lit (.bool true)], args := [d] }
  | _ => none }
def lawS4807AScriptRow : OpenClaim := { program := "ybulkcunk", sum := "05c8af7b2250baeb15c365e444cd6aaf5b8cb7e5028eae73753c11b177ebffeb", func := "example.com/worq/worq.LawS4807AScript", spec := "lawS4807AScript", inPlace := ["(*internal/sync.Mutex).Lock", "internal/race.Disable", "sync/atomic.CompareAndSwapInt32", "internal/race.Enable", "internal/race.Acquire", "(*internal/sync.Mutex).lockSlow", "internal/sync.runtime_canSpin", "internal/sync.runtime_doSpin", "internal/sync.throw", "internal/sync.runtime_nanotime", "internal/sync.runtime_SemacquireMutex", "sync/atomic.AddInt32", "(*internal/sync.Mutex).Unlock", "internal/race.ReleaseMerge", "(*internal/sync.Mutex).unlockSlow", "internal/sync.fatal", "internal/sync.runtime_Semrelease"], apart := false }
def LawS4807AScriptSaid : Prop := lawS4807AScriptRow.holds Yba.pinned (OpenSpec.ofChange lawS4807AScriptSpec)

/-- ITS FALSE NEIGHBOUR: 'it returns false'. Refute it at one input. -/
def lawS4807AScriptWrong : ChangeSpec := { name := "lawS4807AScript", fn := fun _ => fun
  | [d] => { results := [.lit (.bool false)], args := [d] }
  | _ => none }
def LawS4807AScriptWrongFalsely : Prop := lawS4807AScriptRow.holds Yba.pinned (OpenSpec.ofChange lawS4807AScriptWrong)

/-- 'worq.LawS4807AFloat': WHATEVER THE INPUT: true; the input reads as it did. -/
def lawS4807AFloatSpec : ChangeSpec := { name := "lawS4807AFloat", fn := fun _ => fun
  | [d] => { results := [.lit (.bool true)], args := [d] }
  | _ => none }
def lawS4807AFloatRow : OpenClaim := { program := "ybulkcunk", sum := "05c8af7b2250baeb15c365e444cd6aaf5b8cb7e5028eae73753c11b177ebffeb", func := "example.com/worq/worq.LawS4807AFloat", spec := "lawS4807AFloat", inPlace := ["(*internal/sync.Mutex).Lock", "internal/race.Disable", "sync/atomic.CompareAndSwapInt32", "internal/race.Enable", "internal/race.Acquire", "(*internal/sync.Mutex).lockSlow", "internal/sync.runtime_canSpin", "internal/sync.runtime_doSpin", "internal/sync.throw", "internal/sync.runtime_nanotime", "internal/sync.runtime_SemacquireMutex", "sync/atomic.AddInt32", "(*internal/sync.Mutex).Unlock", "internal/race.ReleaseMerge", "(*internal/sync.Mutex).unlockSlow", "internal/sync.fatal", "internal/sync.runtime_Semrelease"], apart := false }
def LawS4807AFloatSaid : Prop := lawS4807AFloatRow.holds Yba.pinned (OpenSpec.ofChange lawS4807AFloatSpec)

/-- ITS FALSE NEIGHBOUR: 'it returns false'. Refute it at one input. -/
def lawS4807AFloatWrong : ChangeSpec := { name := "lawS4807AFloat", fn := fun _ => fun
  | [d] => { results := [.lit (.bool false)], args := [d] }
  | _ => none }
def LawS4807AFloatWrongFalsely : Prop := lawS4807AFloatRow.holds Yba.pinned (OpenSpec.ofChange lawS4807AFloatWrong)

end Rows
end Go.Proofs.Ybulkcunk
