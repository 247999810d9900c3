/-
  No cell of these rows narrows 'for every input' (looked for: loops, veiled, ifaces, maps, wideKeys, modest, calm, conditions, laid).
  DERIVED. THE GIVEN ROWS OF THIS SEAT. 2 by the template 'for every input the law returns true; each argument reads behind the call as it read before'; 0 by the template 'total and deterministic' (their statements: YbulkcunyTotals.lean).
  GIVEN WITH THE SEED: the statements are not yours to turn. If you find one false, say at which input.
  Laid BY PROGRAM, IN A SANDBOX (cutbox-rows.mjs): the forced cells as the released guide's own fill.sh prints them over the translation 52d74497252f508e… (all of the seat's roots in one cut). By AI agents, Wed Nov 11 2026. No macro, syntax, notation, axiom, sorry.
-/
import Derived.Test.YbulkcunyChecked
import GoSem.Claim
import GoSem.ClaimJoined
import GoSem.ClaimMapViews
import Derived.JoinedTies
import Derived.KernelRfl
namespace Go.Proofs.Ybulkcuny
/- THE CELL 'sum', in the pinned program and in every row, IS THE sha256 OF THE DUMP (.gsa) THAT YbulkcunyProg.lean LOADS. Nothing in Lean hashes anything: it is a label: what it is worth is what the hold of that sum in a sandbox is worth. -/
noncomputable def Yba.pinned : Pinned := { name := "ybulkcuny", sum := "52d74497252f508e36138af6c213e532df758bb49552258803b89ece02aaf7a8", checked := Yba.checked }
namespace Rows
def none {H : Type} : Left H := { results := [], args := [] }

/-- 'sched.LawS4808AExact': WHATEVER THE INPUT: true; the input reads as it did. -/
def lawS4808AExactSpec : ChangeSpec := { name := "lawS4808AExact", fn := fun _ => fun
  | [d] => { results := [.lit (.bool true)], args := [d] }
  | _ => none }
def lawS4808AExactRow : OpenClaim := { program := "ybulkcuny", sum := "52d74497252f508e36138af6c213e532df758bb49552258803b89ece02aaf7a8", func := "example.com/unnamed-accord/unnamed-accord/sched.LawS4808AExact", spec := "lawS4808AExact", apart := false }
def LawS4808AExactSaid : Prop := lawS4808AExactRow.holds Yba.pinned (OpenSpec.ofChange lawS4808AExactSpec)

/-- ITS FALSE NEIGHBOUR: 'it returns false'. Refute it at one input. -/
def lawS4808AExactWrong : ChangeSpec := { name := "lawS4808AExact", fn := fun _ => fun
  | [d] => { results := [.lit (.bool false)], args := [d] }
  | _ => none }
def LawS4808AExactWrongFalsely : Prop := lawS4808AExactRow.holds Yba.pinned (OpenSpec.ofChange lawS4808AExactWrong)

/-- 'sched.LawS4808ARoundTrip': WHATEVER THE INPUT: true; the input reads as it did. -/
def lawS4808ARoundTripSpec : ChangeSpec := { name := "lawS4808ARoundTrip", fn := fun _ => fun
  | [d1, d2] => { results := [.lit (.bool true)], args := [d1, d2] }
  | _ => none }
def lawS4808ARoundTripRow : OpenClaim := { program := "ybulkcuny", sum := "52d74497252f508e36138af6c213e532df758bb49552258803b89ece02aaf7a8", func := "example.com/unnamed-accord/unnamed-accord/sched.LawS4808ARoundTrip", spec := "lawS4808ARoundTrip", apart := false }
def LawS4808ARoundTripSaid : Prop := lawS4808ARoundTripRow.holds Yba.pinned (OpenSpec.ofChange lawS4808ARoundTripSpec)

/-- ITS FALSE NEIGHBOUR: 'it returns false'. Refute it at one input. -/
def lawS4808ARoundTripWrong : ChangeSpec := { name := "lawS4808ARoundTrip", fn := fun _ => fun
  | [d1, d2] => { results := [.lit (.bool false)], args := [d1, d2] }
  | _ => none }
def LawS4808ARoundTripWrongFalsely : Prop := lawS4808ARoundTripRow.holds Yba.pinned (OpenSpec.ofChange lawS4808ARoundTripWrong)

end Rows
end Go.Proofs.Ybulkcuny
