/-
  DERIVED. GIVEN WITH THE SEED: THE CARDS: each row of YbulkcunyFmtRows.lean that lists a variable, with what it lists TIED to the program's text (the seventh form; the later family's looks); each row that meets fmt, with fmt's text TOLD by the authors' own Lean function (tested against real Go, not proved from fmt's source: count such statements apart). THE CARD IS WHAT COUNTS. Prove the row's statement (the work); the ties are given (YbulkcunyFmtTie.lean); close each card by the builder's one call (the guide's Derived/Test/ToyasCard.lean, 'card_holds'). Laid BY PROGRAM, IN A SANDBOX (cutbox-door.mjs). By AI agents, Wed Nov 11 2026. No macro, syntax, notation, axiom, sorry.
-/
import Derived.Test.YbulkcunyFmtRows
import GoSem.ClaimSeven
namespace Go.Proofs.YbulkcunyFmt
namespace Rows

/-- THE TOLD AND TIED CARD OF 'unnamed-accord.LawS4808CExact'. -/
def lawS4808CExactCard : Claim7 := { stood := { row := lawS4808CExactRow, standIns := [], harness := (true, "571a7cb1295c77eb37d65d999d5635f951bd9960696a9d1c3e79c3f3340e492d"), looks := true }, told := true, laidByText := true, laidKinds := [.sentinel], laidTests := true, laidLooks := .later, goes := false }
def LawS4808CExactToldSaid : Prop := Claim7.holds Ybaf.pinned (.plain (OpenSpec.ofChange lawS4808CExactSpec)) lawS4808CExactCard
/-- ITS FALSE NEIGHBOUR. Refute it at one input. -/
def LawS4808CExactToldWrongFalsely : Prop := Claim7.holds Ybaf.pinned (.plain (OpenSpec.ofChange lawS4808CExactWrong)) lawS4808CExactCard
end Rows
end Go.Proofs.YbulkcunyFmt
