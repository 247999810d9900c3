/-
  NARROWER THAN 'FOR EVERY INPUT', by the rows' own cells (each row's printed sentence says how): LawS4808CExact: ifaces, laid.
  DERIVED. THE GIVEN ROWS OF THIS SEAT. 1 by the template 'for every input the law returns true; each argument reads behind the call as it read before'; 0 by the template 'total and deterministic' (their statements: YbulkcunyFmtTotals.lean).
  GIVEN WITH THE SEED: the statements are not yours to turn. If you find one false, say at which input.
  Laid BY PROGRAM, IN A SANDBOX (cutbox-rows.mjs): the forced cells as the released guide's own fill.sh prints them over the translation e3e72c5d767e5cb0… (all of the seat's roots in one cut). By AI agents, Wed Nov 11 2026. No macro, syntax, notation, axiom, sorry.
-/
import Derived.Test.YbulkcunyFmtChecked
import GoSem.Claim
import GoSem.ClaimJoined
import GoSem.ClaimMapViews
import Derived.JoinedTies
import Derived.KernelRfl
namespace Go.Proofs.YbulkcunyFmt
/- THE CELL 'sum', in the pinned program and in every row, IS THE sha256 OF THE DUMP (.gsa) THAT YbulkcunyFmtProg.lean LOADS. Nothing in Lean hashes anything: it is a label: what it is worth is what the hold of that sum in a sandbox is worth. -/
noncomputable def Ybaf.pinned : Pinned := { name := "ybulkcunyfmt", sum := "e3e72c5d767e5cb0afbe485f6458c236b329b2d4a335c169553a73cbb93d3302", checked := Ybaf.checked }
namespace Rows
def none {H : Type} : Left H := { results := [], args := [] }

/- WHAT THE LISTED PACKAGE-LEVEL VARIABLES READ AS WHEN THE CALL BEGINS. Each datum BY PROGRAM (the guide's laid-datum.mjs) off the statement by which the dump's own 'gosem.cut.vars' lays the variable. In a bare row this is a premise. The card (YbulkcunyFmtCards.lean) ties it to the program's text. -/
def laid_example_com_unnamed_accord_unnamed_accord_ErrWindowTooSmall {H : Type} : DataW H := .iface "*errors.errorString" (.ptr (.agg [.lit (.string [97, 99, 99, 111, 114, 100, 58, 32, 106, 97, 110, 117, 115, 32, 119, 105, 110, 100, 111, 119, 32, 115, 109, 97, 108, 108, 101, 114, 32, 116, 104, 97, 110, 32, 49])]))

/-- 'unnamed-accord.LawS4808CExact': WHATEVER THE INPUT: true; the input reads as it did. -/
def lawS4808CExactSpec : ChangeSpec := { name := "lawS4808CExact", vars := ["example.com/unnamed-accord/unnamed-accord.ErrWindowTooSmall"], fn := fun _ => fun
  | [d, g1] => { results := [.lit (.bool true)], args := [d], vars := [g1] }
  | _ => none }
def lawS4808CExactRow : OpenClaim := { program := "ybulkcunyfmt", sum := "e3e72c5d767e5cb0afbe485f6458c236b329b2d4a335c169553a73cbb93d3302", func := "example.com/unnamed-accord/unnamed-accord.LawS4808CExact", spec := "lawS4808CExact", stops := ["fmt.errorf"], inPlace := ["fmt.errorf", "internal/reflectlite.TypeOf"], unfollowed := true, recurses := true, named := ["example.com/unnamed-accord/unnamed-accord.ErrWindowTooSmall"], ifaces := true, apart := false, laid := [("example.com/unnamed-accord/unnamed-accord.ErrWindowTooSmall", laid_example_com_unnamed_accord_unnamed_accord_ErrWindowTooSmall)] }
/-- NO THEOREM (fmt's text is open here; it may be false): for the released tool's asking of the row's closed facts alone. THE STATEMENT IS 'LawS4808CExactToldSaid' (YbulkcunyFmtCards.lean). -/
def LawS4808CExactFormAsk : Prop := lawS4808CExactRow.holds Ybaf.pinned (OpenSpec.ofChange lawS4808CExactSpec)

/-- ITS FALSE NEIGHBOUR: 'it returns false'. Refute it at one input. -/
def lawS4808CExactWrong : ChangeSpec := { name := "lawS4808CExact", vars := ["example.com/unnamed-accord/unnamed-accord.ErrWindowTooSmall"], fn := fun _ => fun
  | [d, g1] => { results := [.lit (.bool false)], args := [d], vars := [g1] }
  | _ => none }
def LawS4808CExactWrongFormAsk : Prop := lawS4808CExactRow.holds Ybaf.pinned (OpenSpec.ofChange lawS4808CExactWrong)

end Rows
end Go.Proofs.YbulkcunyFmt
