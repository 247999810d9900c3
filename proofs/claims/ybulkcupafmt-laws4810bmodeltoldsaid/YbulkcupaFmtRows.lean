/-
  NARROWER THAN 'FOR EVERY INPUT', by the rows' own cells (each row's printed sentence says how): LawS4810BModel: laid · LawS4810BAnyBytes: laid.
  DERIVED. THE GIVEN ROWS OF THIS SEAT. 3 by the template 'for every input the law returns true; each argument reads behind the call as it read before'; 0 by the template 'total and deterministic' (their statements: YbulkcupaFmtTotals.lean).
  GIVEN WITH THE SEED: the statements are not yours to turn. If you find one false, say at which input.
  Laid BY PROGRAM, IN A SANDBOX (cutbox-rows.mjs): the forced cells as the released guide's own fill.sh prints them over the translation 85f0d978a2ffda81… (all of the seat's roots in one cut). By AI agents, Wed Nov 11 2026. No macro, syntax, notation, axiom, sorry.
-/
import Derived.Test.YbulkcupaFmtChecked
import GoSem.Claim
import GoSem.ClaimJoined
import GoSem.ClaimMapViews
import Derived.JoinedTies
import Derived.KernelRfl
namespace Go.Proofs.YbulkcupaFmt
/- THE CELL 'sum', in the pinned program and in every row, IS THE sha256 OF THE DUMP (.gsa) THAT YbulkcupaFmtProg.lean LOADS. Nothing in Lean hashes anything: it is a label: what it is worth is what the hold of that sum in a sandbox is worth. -/
noncomputable def Ybaf.pinned : Pinned := { name := "ybulkcupafmt", sum := "85f0d978a2ffda81da928a8af3f53a2afee6a843d3f6da3c47832a9e51b01bc8", checked := Ybaf.checked }
namespace Rows
def none {H : Type} : Left H := { results := [], args := [] }

/- WHAT THE LISTED PACKAGE-LEVEL VARIABLES READ AS WHEN THE CALL BEGINS. Each datum BY PROGRAM (the guide's laid-datum.mjs) off the statement by which the dump's own 'gosem.cut.vars' lays the variable. In a bare row this is a premise. The card (YbulkcupaFmtCards.lean) ties it to the program's text. -/
def laid_errors_errorType {H : Type} : DataW H := .iface "internal/reflectlite.rtype" (.agg [.ptr (.lit (.string [101, 114, 114, 111, 114]))])
def laid_example_com_corelay_corelay_pkg_bssgp_plmnDigitOctet {H : Type} : DataW H := .agg [.lit (.int .i64 0), .lit (.int .i64 0), .lit (.int .i64 1), .lit (.int .i64 2), .lit (.int .i64 2), .lit (.int .i64 1)]

/-- 'rim.LawS4810AName': WHATEVER THE INPUT: true; the input reads as it did. -/
def lawS4810ANameSpec : ChangeSpec := { name := "lawS4810AName", fn := fun _ => fun
  | [d1, d2, d3, d4, d5, d6, d7] => { results := [.lit (.bool true)], args := [d1, d2, d3, d4, d5, d6, d7] }
  | _ => none }
def lawS4810ANameRow : OpenClaim := { program := "ybulkcupafmt", sum := "85f0d978a2ffda81da928a8af3f53a2afee6a843d3f6da3c47832a9e51b01bc8", func := "example.com/corelay/corelay/pkg/rim.LawS4810AName", spec := "lawS4810AName", stops := ["fmt.Sprintf, its operands' methods called"], inPlace := ["fmt.Sprintf"], unfollowed := true, recurses := true, apart := false }
/-- NO THEOREM (fmt's text is open here; it may be false): for the released tool's asking of the row's closed facts alone. THE STATEMENT IS 'LawS4810ANameToldSaid' (YbulkcupaFmtCards.lean). -/
def LawS4810ANameFormAsk : Prop := lawS4810ANameRow.holds Ybaf.pinned (OpenSpec.ofChange lawS4810ANameSpec)

/-- ITS FALSE NEIGHBOUR: 'it returns false'. Refute it at one input. -/
def lawS4810ANameWrong : ChangeSpec := { name := "lawS4810AName", fn := fun _ => fun
  | [d1, d2, d3, d4, d5, d6, d7] => { results := [.lit (.bool false)], args := [d1, d2, d3, d4, d5, d6, d7] }
  | _ => none }
def LawS4810ANameWrongFormAsk : Prop := lawS4810ANameRow.holds Ybaf.pinned (OpenSpec.ofChange lawS4810ANameWrong)

/-- 'bssgp.LawS4810BModel': WHATEVER THE INPUT: true; the input reads as it did. -/
def lawS4810BModelSpec : ChangeSpec := { name := "lawS4810BModel", vars := ["example.com/corelay/corelay/pkg/bssgp.plmnDigitOctet"], fn := fun _ => fun
  | [d1, d2, d3, d4, g1] => { results := [.lit (.bool true)], args := [d1, d2, d3, d4], vars := [g1] }
  | _ => none }
def lawS4810BModelRow : OpenClaim := { program := "ybulkcupafmt", sum := "85f0d978a2ffda81da928a8af3f53a2afee6a843d3f6da3c47832a9e51b01bc8", func := "example.com/corelay/corelay/pkg/bssgp.LawS4810BModel", spec := "lawS4810BModel", stops := ["fmt.Sprintf, its operands' methods called"], inPlace := ["fmt.Sprintf", "internal/reflectlite.ValueOf", "(internal/reflectlite.Value).Type", "(internal/reflectlite.Value).IsNil", "internal/reflectlite.TypeOf", "(internal/reflectlite.Value).Elem", "(internal/reflectlite.Value).Set"], unfollowed := true, recurses := true, named := ["encoding/binary.BigEndian", "example.com/corelay/corelay/pkg/bssgp.plmnDigitOctet", "errors.errorType"], apart := false, laid := [("errors.errorType", laid_errors_errorType), ("example.com/corelay/corelay/pkg/bssgp.plmnDigitOctet", laid_example_com_corelay_corelay_pkg_bssgp_plmnDigitOctet)] }
/-- NO THEOREM (fmt's text is open here; it may be false): for the released tool's asking of the row's closed facts alone. THE STATEMENT IS 'LawS4810BModelToldSaid' (YbulkcupaFmtCards.lean). -/
def LawS4810BModelFormAsk : Prop := lawS4810BModelRow.holds Ybaf.pinned (OpenSpec.ofChange lawS4810BModelSpec)

/-- ITS FALSE NEIGHBOUR: 'it returns false'. Refute it at one input. -/
def lawS4810BModelWrong : ChangeSpec := { name := "lawS4810BModel", vars := ["example.com/corelay/corelay/pkg/bssgp.plmnDigitOctet"], fn := fun _ => fun
  | [d1, d2, d3, d4, g1] => { results := [.lit (.bool false)], args := [d1, d2, d3, d4], vars := [g1] }
  | _ => none }
def LawS4810BModelWrongFormAsk : Prop := lawS4810BModelRow.holds Ybaf.pinned (OpenSpec.ofChange lawS4810BModelWrong)

/-- 'bssgp.LawS4810BAnyBytes': WHATEVER THE INPUT: true; the input reads as it did. -/
def lawS4810BAnyBytesSpec : ChangeSpec := { name := "lawS4810BAnyBytes", vars := ["example.com/corelay/corelay/pkg/bssgp.plmnDigitOctet"], fn := fun _ => fun
  | [d, g1] => { results := [.lit (.bool true)], args := [d], vars := [g1] }
  | _ => none }
def lawS4810BAnyBytesRow : OpenClaim := { program := "ybulkcupafmt", sum := "85f0d978a2ffda81da928a8af3f53a2afee6a843d3f6da3c47832a9e51b01bc8", func := "example.com/corelay/corelay/pkg/bssgp.LawS4810BAnyBytes", spec := "lawS4810BAnyBytes", stops := ["fmt.Sprintf, its operands' methods called"], inPlace := ["fmt.Sprintf", "internal/reflectlite.ValueOf", "(internal/reflectlite.Value).Type", "(internal/reflectlite.Value).IsNil", "internal/reflectlite.TypeOf", "(internal/reflectlite.Value).Elem", "(internal/reflectlite.Value).Set"], unfollowed := true, recurses := true, named := ["encoding/binary.BigEndian", "example.com/corelay/corelay/pkg/bssgp.plmnDigitOctet", "errors.errorType"], apart := false, laid := [("errors.errorType", laid_errors_errorType), ("example.com/corelay/corelay/pkg/bssgp.plmnDigitOctet", laid_example_com_corelay_corelay_pkg_bssgp_plmnDigitOctet)] }
/-- NO THEOREM (fmt's text is open here; it may be false): for the released tool's asking of the row's closed facts alone. THE STATEMENT IS 'LawS4810BAnyBytesToldSaid' (YbulkcupaFmtCards.lean). -/
def LawS4810BAnyBytesFormAsk : Prop := lawS4810BAnyBytesRow.holds Ybaf.pinned (OpenSpec.ofChange lawS4810BAnyBytesSpec)

/-- ITS FALSE NEIGHBOUR: 'it returns false'. Refute it at one input. -/
def lawS4810BAnyBytesWrong : ChangeSpec := { name := "lawS4810BAnyBytes", vars := ["example.com/corelay/corelay/pkg/bssgp.plmnDigitOctet"], fn := fun _ => fun
  | [d, g1] => { results := [.lit (.bool false)], args := [d], vars := [g1] }
  | _ => none }
def LawS4810BAnyBytesWrongFormAsk : Prop := lawS4810BAnyBytesRow.holds Ybaf.pinned (OpenSpec.ofChange lawS4810BAnyBytesWrong)

end Rows
end Go.Proofs.YbulkcupaFmt
