/-
  DERIVED. GIVEN WITH THE SEED: THE CARDS: each row of YbulkcupaFmtRows.lean that lists a variable, with what it lists TIED to the program's text (the seventh form; the later family's looks); each row that meets fmt, with fmt's text TOLD by the authors' own Lean function (tested against real Go, not proved from fmt's source: count such statements apart). THE CARD IS WHAT COUNTS. Prove the row's statement (the work); the ties are given (YbulkcupaFmtTie.lean); close each card by the builder's one call (the guide's Derived/Test/ToyasCard.lean, 'card_holds'). Laid BY PROGRAM, IN A SANDBOX (cutbox-door.mjs). By AI agents, Wed Nov 11 2026. No macro, syntax, notation, axiom, sorry.
-/
import Derived.Test.YbulkcupaFmtRows
import GoSem.ClaimSeven
namespace Go.Proofs.YbulkcupaFmt
namespace Rows

/-- THE TOLD CARD OF 'rim.LawS4810AName'. -/
def lawS4810ANameCard : Claim7 := { stood := { row := lawS4810ANameRow, standIns := [], harness := (true, "eaff77368f8e641b0287abc419938d9077f4b011dd917bc66b236648bc3d3908"), looks := true }, told := true, goes := false }
def LawS4810ANameToldSaid : Prop := Claim7.holds Ybaf.pinned (.plain (OpenSpec.ofChange lawS4810ANameSpec)) lawS4810ANameCard
/-- ITS FALSE NEIGHBOUR. Refute it at one input. -/
def LawS4810ANameToldWrongFalsely : Prop := Claim7.holds Ybaf.pinned (.plain (OpenSpec.ofChange lawS4810ANameWrong)) lawS4810ANameCard

/-- THE TOLD AND TIED CARD OF 'bssgp.LawS4810BModel'. -/
def lawS4810BModelCard : Claim7 := { stood := { row := lawS4810BModelRow, standIns := [], harness := (true, "eaff77368f8e641b0287abc419938d9077f4b011dd917bc66b236648bc3d3908"), looks := true }, told := true, laidByText := true, laidKinds := [.handle, .data], laidTests := true, laidLooks := .later, goes := false }
def LawS4810BModelToldSaid : Prop := Claim7.holds Ybaf.pinned (.plain (OpenSpec.ofChange lawS4810BModelSpec)) lawS4810BModelCard
/-- ITS FALSE NEIGHBOUR. Refute it at one input. -/
def LawS4810BModelToldWrongFalsely : Prop := Claim7.holds Ybaf.pinned (.plain (OpenSpec.ofChange lawS4810BModelWrong)) lawS4810BModelCard

/-- THE TOLD AND TIED CARD OF 'bssgp.LawS4810BAnyBytes'. -/
def lawS4810BAnyBytesCard : Claim7 := { stood := { row := lawS4810BAnyBytesRow, standIns := [], harness := (true, "eaff77368f8e641b0287abc419938d9077f4b011dd917bc66b236648bc3d3908"), looks := true }, told := true, laidByText := true, laidKinds := [.handle, .data], laidTests := true, laidLooks := .later, goes := false }
def LawS4810BAnyBytesToldSaid : Prop := Claim7.holds Ybaf.pinned (.plain (OpenSpec.ofChange lawS4810BAnyBytesSpec)) lawS4810BAnyBytesCard
/-- ITS FALSE NEIGHBOUR. Refute it at one input. -/
def LawS4810BAnyBytesToldWrongFalsely : Prop := Claim7.holds Ybaf.pinned (.plain (OpenSpec.ofChange lawS4810BAnyBytesWrong)) lawS4810BAnyBytesCard
end Rows
end Go.Proofs.YbulkcupaFmt
