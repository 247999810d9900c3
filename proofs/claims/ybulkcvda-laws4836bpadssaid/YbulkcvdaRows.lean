/-
  No cell of these rows narrows 'for every input' (looked for: loops, veiled, ifaces, maps, wideKeys, modest, calm, conditions, laid).
  DERIVED. THE GIVEN ROWS OF THIS SEAT. 3 by the template 'for every input the law returns true; each argument reads behind the call as it read before'; 0 by the template 'total and deterministic' (their statements: YbulkcvdaTotals.lean).
  GIVEN WITH THE SEED: the statements are not yours to turn. If you find one false, say at which input.
  Laid BY PROGRAM, IN A SANDBOX (cutbox-rows.mjs): the forced cells as the released guide's own fill.sh prints them over the translation 9da80fc341cd5895… (all of the seat's roots in one cut). By AI agents, Wed Nov 11 2026. No macro, syntax, notation, axiom, sorry.
-/
import Derived.Test.YbulkcvdaChecked
import GoSem.Claim
import GoSem.ClaimJoined
import GoSem.ClaimMapViews
import Derived.JoinedTies
import Derived.KernelRfl
namespace Go.Proofs.Ybulkcvda
/- THE CELL 'sum', in the pinned program and in every row, IS THE sha256 OF THE DUMP (.gsa) THAT YbulkcvdaProg.lean LOADS. Nothing in Lean hashes anything: it is a label: what it is worth is what the hold of that sum in a sandbox is worth. -/
noncomputable def Yba.pinned : Pinned := { name := "ybulkcvda", sum := "9da80fc341cd5895ecc4a19bad0dae56ea4878c5fcb74251c21b5ca1d2fcb8ab", checked := Yba.checked }
namespace Rows
def none {H : Type} : Left H := { results := [], args := [] }

/-- 'onetrip.LawS4836ATable': WHATEVER THE INPUT: true; the input reads as it did. -/
def lawS4836ATableSpec : ChangeSpec := { name := "lawS4836ATable", fn := fun _ => fun
  | [d1, d2] => { results := [.lit (.bool true)], args := [d1, d2] }
  | _ => none }
def lawS4836ATableRow : OpenClaim := { program := "ybulkcvda", sum := "9da80fc341cd5895ecc4a19bad0dae56ea4878c5fcb74251c21b5ca1d2fcb8ab", func := "example.com/onetrip/onetrip.LawS4836ATable", spec := "lawS4836ATable", unfollowed := true, recurses := true, apart := false }
def LawS4836ATableSaid : Prop := lawS4836ATableRow.holds Yba.pinned (OpenSpec.ofChange lawS4836ATableSpec)

/-- ITS FALSE NEIGHBOUR: 'it returns false'. Refute it at one input. -/
def lawS4836ATableWrong : ChangeSpec := { name := "lawS4836ATable", fn := fun _ => fun
  | [d1, d2] => { results := [.lit (.bool false)], args := [d1, d2] }
  | _ => none }
def LawS4836ATableWrongFalsely : Prop := lawS4836ATableRow.holds Yba.pinned (OpenSpec.ofChange lawS4836ATableWrong)

/-- 'onetrip.LawS4836AHT': WHATEVER THE INPUT: true; the input reads as it did. -/
def lawS4836AHTSpec : ChangeSpec := { name := "lawS4836AHT", fn := fun _ => fun
  | [d1, d2] => { results := [.lit (.bool true)], args := [d1, d2] }
  | _ => none }
def lawS4836AHTRow : OpenClaim := { program := "ybulkcvda", sum := "9da80fc341cd5895ecc4a19bad0dae56ea4878c5fcb74251c21b5ca1d2fcb8ab", func := "example.com/onetrip/onetrip.LawS4836AHT", spec := "lawS4836AHT", unfollowed := true, recurses := true, apart := false }
def LawS4836AHTSaid : Prop := lawS4836AHTRow.holds Yba.pinned (OpenSpec.ofChange lawS4836AHTSpec)

/-- ITS FALSE NEIGHBOUR: 'it returns false'. Refute it at one input. -/
def lawS4836AHTWrong : ChangeSpec := { name := "lawS4836AHT", fn := fun _ => fun
  | [d1, d2] => { results := [.lit (.bool false)], args := [d1, d2] }
  | _ => none }
def LawS4836AHTWrongFalsely : Prop := lawS4836AHTRow.holds Yba.pinned (OpenSpec.ofChange lawS4836AHTWrong)

/-- 'onetrip.LawS4836BPads': WHATEVER THE INPUT: true; the input reads as it did. -/
def lawS4836BPadsSpec : ChangeSpec := { name := "lawS4836BPads", fn := fun _ => fun
  | [d1, d2, d3] => { results := [.lit (.bool true)], args := [d1, d2, d3] }
  | _ => none }
def lawS4836BPadsRow : OpenClaim := { program := "ybulkcvda", sum := "9da80fc341cd5895ecc4a19bad0dae56ea4878c5fcb74251c21b5ca1d2fcb8ab", func := "example.com/onetrip/onetrip.LawS4836BPads", spec := "lawS4836BPads", unfollowed := true, recurses := true, apart := false }
def LawS4836BPadsSaid : Prop := lawS4836BPadsRow.holds Yba.pinned (OpenSpec.ofChange lawS4836BPadsSpec)

/-- ITS FALSE NEIGHBOUR: 'it returns false'. Refute it at one input. -/
def lawS4836BPadsWrong : ChangeSpec := { name := "lawS4836BPads", fn := fun _ => fun
  | [d1, d2, d3] => { results := [.lit (.bool false)], args := [d1, d2, d3] }
  | _ => none }
def LawS4836BPadsWrongFalsely : Prop := lawS4836BPadsRow.holds Yba.pinned (OpenSpec.ofChange lawS4836BPadsWrong)

end Rows
end Go.Proofs.Ybulkcvda
