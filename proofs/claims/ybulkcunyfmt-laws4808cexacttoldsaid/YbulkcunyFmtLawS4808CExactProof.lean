/-
  The proof of 'Rows.LawS4808CExactToldSaid': the told and tied card of LawS4808CExact. (After the kit's worked texts SentryProofs, GuardTold, PortSeven.)
-/
import Derived.Test.YbulkcunyFmtWalks
import Derived.Test.YbulkcunyFmtCards
import Derived.Test.YbulkcunyFmtTie
import Derived.ProofKit
import Derived.Stop.JoinedAt
import Derived.Stop.JoinedTold
import Derived.Stop.Texts
import Derived.Stop.LaidErr
import Derived.SevenTiedAt
import Derived.WalkSmall
namespace Go.Proofs.YbulkcunyFmt
open Go.ChangeShapes Go.WideShapes Go.ChangeAt Go.RowKit Go.Kit
open Go.Extern.Stop Go.Stop Go.Extern

theorem Ybaf.own : ownKnob Ybaf.prog.godebug = none := by kernel_rfl
theorem Ybaf.laidOut : laidOutB Ybaf.pinned.checked.prog = true := by kernel_rfl
theorem Ybaf.stops : Ybaf.pinned.checked.prog.stops = ["fmt.errorf"] := by kernel_rfl
theorem Ybaf.stopKnobs : Ybaf.pinned.checked.prog.stopKnobs = [] := by kernel_rfl
theorem Ybaf.quiet (os : Os) : Stop.quiet Ybaf.pinned.checked.prog os := by
  intro k hk
  rw [Ybaf.stopKnobs] at hk
  cases hk
theorem Ybaf.gE : Ybaf.prog.globalNamed "example.com/unnamed-accord/unnamed-accord.ErrWindowTooSmall" = some 0 := by kernel_rfl
theorem Ybaf.gEType : (Ybaf.prog.globals[0]?).map (·.type) = some 23 := by kernel_rfl
theorem Ybaf.cells49 : Ybaf.prog.cellsOf 49 = 1 := by kernel_rfl
theorem Ybaf.cells9 : Ybaf.prog.cellsOf 9 = 1 := by kernel_rfl
theorem Ybaf.star : "*" ++ "errors.errorString" = "*errors.errorString" := by decide
theorem Ybaf.row47 (u : TypeId) (h : Ybaf.prog.typeName? 3 u = some "*errors.errorString") : u = 47 :=
  typeName_ptr_named (nm := "errors.errorString") (by rw [Ybaf.star]; kernel_rfl) (by kernel_rfl) (by decide) u (by rw [Ybaf.star]; exact h)

/-- The sentinel's text. -/
abbrev windowS : ByteArray := { data := #[97, 99, 99, 111, 114, 100, 58, 32, 106, 97, 110, 117, 115, 32, 119, 105, 110, 100, 111, 119, 32, 115, 109, 97, 108, 108, 101, 114, 32, 116, 104, 97, 110, 32, 49] }
/-- So many blocks has the settled world. -/
def lowOf (P : Program) : Nat := (World.holding P default ⟨#[], #[], []⟩).heap.size
/-- A world in which variable 0 reads as the sentinel that is listed. -/
def laidWorldOf (P : Program) (os : Os) : World :=
  let w0 := World.holding P os ⟨#[.cells #[.string windowS] 49], #[], []⟩
  { w0 with heap := w0.heap.modify 0 fun
      | .cells _ t frozen => .cells #[.iface 47 (.pointer (some ⟨lowOf P, 0, none⟩))] t frozen
      | o => o }
theorem laid_met (os : Os) (args : Array Value) : laidMet Ybaf.prog Rows.lawS4808CExactRow.laid ((laidWorldOf Ybaf.prog os).forCall (fun _ _ => 0) ⟨#[], args, []⟩).memory :=
  laidMet_of_run (ps := [.cell 0 0, .cell (lowOf Ybaf.prog) 0]) 8 (by kernel_rfl) (by kernel_rfl) (by kernel_rfl)

set_option maxRecDepth 100000 in
theorem lifted (os : Os) (started : os.Started) (H : Type) (enc : TypeId × Value → H) :
    ReturnsInTold none {} Ybaf.checked os 3 .any Input.okWide ((OpenSpec.ofChange Rows.lawS4808CExactSpec).preRow enc Ybaf.prog Ybaf.f3 Rows.lawS4808CExactRow.domain false Rows.lawS4808CExactRow.laid) (fun F => ((OpenSpec.ofChange Rows.lawS4808CExactSpec).at F).post enc Ybaf.prog Ybaf.f3 false true false false) (aloneAtReturn Ybaf.prog) nothingAlways := by
  refine returnsInTold_of_row (C := Ybaf.checked) (s := OpenSpec.ofChange Rows.lawS4808CExactSpec) (by kernel_rfl) Ybaf.own started (by kernel_rfl) Ybaf.func3
    (OpenSpec.witness_stopped_at (enc := enc) (C := Ybaf.checked) false (laidWorldOf Ybaf.prog os) #[.int .i64 0] rfl (by kernel_rfl) (by kernel_rfl) (by kernel_rfl)
      (OpenSpec.preRow_of_B rfl 8 (by kernel_rfl) (by kernel_rfl) (laid_met os _))) ?_
  intro F W base args ds gs before _ hF hval0 hW _ _ _ hL _
  have hval : ∀ (j : Nat) t v, Ybaf.f3.params[j]? = some t → args[j]? = some v → Value.okWide Ybaf.prog W .any base t v := hval0
  have hW' := hW
  obtain ⟨p, q, hA0, hV0, rfl, _, _⟩ := hW
  have hA : DataW.TrodAll enc Ybaf.prog W 0 (fun _ => true) true Ybaf.f3.params.toList args.toList ds p := hA0
  have hV : DataW.TrodVars enc Ybaf.prog W (fun _ => true) ["example.com/unnamed-accord/unnamed-accord.ErrWindowTooSmall"] gs q := hV0
  rw [Ybaf.params3] at hA hval
  obtain ⟨v0, d0, rfl, rfl, h0⟩ := trodAll_one hA
  obtain ⟨k, rfl, rfl, rfl, wk⟩ := open_int Ybaf.underlying3 (hval 0 3 v0 rfl rfl) h0
  obtain ⟨a1, s1, hv1, hc1, hs1, hz1⟩ := laid_sentinel hL Ybaf.gE Ybaf.gEType Ybaf.underlying23 Ybaf.row47 Ybaf.underlying47 Ybaf.underlying49 rfl rfl Ybaf.underlying9 Ybaf.cells49 Ybaf.cells9
  obtain ⟨rfl, rfl⟩ := hV.unique (vars_read1 enc Ybaf.gE Ybaf.gEType Ybaf.underlying23 hv1 trivial _)
  clear hA0 hV0 hval0
  have hg1 : W.cell? ⟨0, 0, none⟩ = some (.iface 47 (.pointer (some a1))) := by simpa using World.var?_cell Ybaf.gE hv1 0
  have hlt : a1.block < W.heap.size := World.block_lt_of_cell? _ _ hc1
  have h00 : 0 < W.heap.size := World.block_lt_of_cell? _ _ hg1
  have key : Calls Ybaf.prog 3 #[.int .i64 k] W fun e w' => e = .returned (.bool true) ∧ Below W.heap.size W w' := by
    by_cases hk : k < 1
    · exact law_bad F.told k a1 s1 W hF hg1 hc1 hlt h00 hk
    · exact law_ok k W hk
  refine key.mono fun e W' ⟨he, bel⟩ => ?_
  subst he
  exact ⟨_, rfl, _, _, _, [], [], [.cell 0 0], hW', trodAll_mk1 (shut_bool Ybaf.underlying4 _), trodAll_mk1 (shut_int Ybaf.underlying3 wk), vars_read1 enc Ybaf.gE Ybaf.gEType Ybaf.underlying23 (var?_below bel Ybaf.gE h00 hv1) trivial _, bel.frame _, fun h => by cases h⟩

/-- THE STATEMENT. -/
theorem proved : Rows.LawS4808CExactToldSaid :=
  Claim7.holds_of_told_tied_any_at .later 3 Ybaf.f3 "fmt.errorf" [] [] _ _ _ _ _ (by kernel_rfl) rfl rfl rfl Ybaf.laidOut (by kernel_rfl) rfl ⟨rfl, rfl, rfl, rfl, rfl, rfl, rfl⟩ rfl rfl (by kernel_rfl) (by kernel_rfl) Ybaf.func3 (by kernel_rfl)
    (of_decide_eq_true (by kernel_rfl)) (of_decide_eq_true (by kernel_rfl)) Ybaf.stops.symm rfl Ybaf.stopKnobs.symm (by kernel_rfl)
    (by kernel_rfl) (by kernel_rfl) (by kernel_rfl) (by kernel_rfl) (by kernel_rfl) (by kernel_rfl) (by kernel_rfl) (by kernel_rfl) (by kernel_rfl) rfl (by kernel_rfl) rfl rfl
    rfl rfl
    rfl (by kernel_rfl) (by kernel_rfl) (by kernel_rfl) (by decide) (by kernel_rfl) lawS4808CExact_row_tie
    (OpenClaim.moreEntering_of (by kernel_rfl) (by kernel_rfl) (by kernel_rfl) (by kernel_rfl) (by kernel_rfl) (by kernel_rfl) (by kernel_rfl) (by kernel_rfl) (by kernel_rfl) (by kernel_rfl))
    ⟨_, WideRow.started_initial, Ybaf.quiet _⟩
    (fun os started _ H enc _ => lifted os started H enc)
end Go.Proofs.YbulkcunyFmt
