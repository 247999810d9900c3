/- By an AI agent. No person has read it.
   The proof of 'Rows.LawS4810BModelToldSaid': the told and tied card of LawS4810BModel. (After the kit's worked texts CapsTold, ToyasProofs, PortSeven.) -/
import Derived.Test.YbulkcupaFmtLaw
import Derived.Test.YbulkcupaFmtCards
import Derived.Test.YbulkcupaFmtTie
import Derived.ProofKit
import Derived.OpenShut
import Derived.Carry
import Derived.Deep.Slices
import Derived.Deep.SlicePairs
import Derived.LaidLaws
import Derived.LaidHandle
import Derived.Stop.JoinedAt
import Derived.Stop.JoinedTold
import Derived.Stop.Texts
import Derived.Stop.LaidErr
import Derived.SevenTiedAt
import Derived.WalkSmall
namespace Go.Proofs.YbulkcupaFmt
open Go.ChangeShapes Go.WideShapes Go.ChangeAt Go.RowKit Go.Kit Go.Deep
open Go.Extern.Stop Go.Stop Go.Extern

theorem Ybaf.own : ownKnob Ybaf.prog.godebug = none := by kernel_rfl
theorem Ybaf.laidOut : laidOutB Ybaf.pinned.checked.prog = true := by kernel_rfl
theorem Ybaf.laidOut' : laidOutB Ybaf.prog = true := by kernel_rfl
theorem Ybaf.stops : Ybaf.pinned.checked.prog.stops = Rows.lawS4810BModelRow.stops := by kernel_rfl
theorem Ybaf.stopKnobs : Ybaf.pinned.checked.prog.stopKnobs = [] := by kernel_rfl
theorem Ybaf.quiet (os : Os) : Stop.quiet Ybaf.pinned.checked.prog os := by
  intro k hk
  rw [Ybaf.stopKnobs] at hk
  cases hk
theorem Ybaf.gE : Ybaf.prog.globalNamed "errors.errorType" = some 1 := by kernel_rfl
theorem Ybaf.gP : Ybaf.prog.globalNamed "example.com/corelay/corelay/pkg/bssgp.plmnDigitOctet" = some 2 := by kernel_rfl
theorem Ybaf.gPType : (Ybaf.prog.globals[2]?).map (·.type) = some 94 := by kernel_rfl
theorem Ybaf.cells94 : Ybaf.prog.cellsOf 94 = 6 := by kernel_rfl
theorem Ybaf.cells3 : Ybaf.prog.cellsOf 3 = 1 := by kernel_rfl
theorem Ybaf.cells4 : Ybaf.prog.cellsOf 4 = 1 := by kernel_rfl
theorem Ybaf.cells5 : Ybaf.prog.cellsOf 5 = 1 := by kernel_rfl
theorem Ybaf.cells29 : Ybaf.prog.cellsOf 29 = 1 := by kernel_rfl
theorem Ybaf.cells30 : Ybaf.prog.cellsOf 30 = 1 := by kernel_rfl
theorem Ybaf.cells57 : Ybaf.prog.cellsOf 57 = 5 := by kernel_rfl
theorem Ybaf.rt : (Ybaf.prog.cutTypes.find? (·.1 == "internal/reflectlite.rtype")).map (·.2) = some 96 := by kernel_rfl
theorem Ybaf.oneRow : ((List.range Ybaf.prog.types.size).filter fun t => Ybaf.prog.rowNamed t [101, 114, 114, 111, 114]) = [42] := by kernel_rfl
theorem Ybaf.handle42 : typeHandle Ybaf.prog 42 = .pointer (some ⟨3, 42, none⟩) := by kernel_rfl

/-- The table's six cells. -/
def cells6 : Array Value := #[.int .i64 0, .int .i64 0, .int .i64 1, .int .i64 2, .int .i64 2, .int .i64 1]

theorem int_of_trod {H : Type} {enc : TypeId × Value → H} {w : World} {base : Nat} {sp : Nat → Bool} {held : Bool} {fuel : Nat} {c : Value} {y : DataW H × List MemPlace}
    (h : DataW.trod enc Ybaf.prog w base sp held fuel 3 [c] = some y) : ∃ s : Int, c = .int .i64 s ∧ y = (.lit (.int .i64 s), []) := by
  obtain ⟨s, hc, hy, _⟩ := DataW.trod_int Ybaf.underlying3 h
  simp only [List.cons.injEq, and_true] at hc
  exact ⟨s, hc, hy⟩

/-- What the row lists of the table. -/
theorem table_of_laid {W : World} (h : laidMet Ybaf.prog [("example.com/corelay/corelay/pkg/bssgp.plmnDigitOctet", Rows.laid_example_com_corelay_corelay_pkg_bssgp_plmnDigitOctet)] W) : W.var? Ybaf.prog "example.com/corelay/corelay/pkg/bssgp.plmnDigitOctet" = some cells6 := by
  obtain ⟨ps, ⟨g, t, cs, fuel, p, q, hg, ht, hvar, hd, _, _⟩, _⟩ := h
  obtain rfl := Option.some.inj (Ybaf.gP.symm.trans hg)
  obtain rfl := Option.some.inj (Ybaf.gPType.symm.trans ht)
  rw [hvar]
  congr 1
  obtain ⟨l⟩ := cs
  cases fuel with
  | zero => simp [DataW.trod] at hd
  | succ fuel =>
    simp only [DataW.trod, Ybaf.underlying94, Ybaf.cells94, Ybaf.cells3] at hd
    split at hd
    · rename_i hl
      obtain ⟨c0, c1, c2, c3, c4, c5, rfl⟩ : ∃ c0 c1 c2 c3 c4 c5, l = [c0, c1, c2, c3, c4, c5] := by
        match l, hl with
        | [a, b, c, d, e, f], _ => exact ⟨a, b, c, d, e, f, rfl⟩
      have e : List.range 6 = [0, 1, 2, 3, 4, 5] := rfl
      rw [e] at hd
      simp only [Option.map_eq_some_iff, List.mapM_cons, List.mapM_nil, Option.bind_eq_bind, Option.bind_eq_some_iff, Option.pure_def, Option.some.injEq] at hd
      obtain ⟨xs, ⟨y0, h0, _, ⟨y1, h1, _, ⟨y2, h2, _, ⟨y3, h3, _, ⟨y4, h4, _, ⟨y5, h5, _, rfl, rfl⟩, rfl⟩, rfl⟩, rfl⟩, rfl⟩, rfl⟩, hx⟩ := hd
      obtain ⟨n0, rfl, rfl⟩ := int_of_trod h0
      obtain ⟨n1, rfl, rfl⟩ := int_of_trod h1
      obtain ⟨n2, rfl, rfl⟩ := int_of_trod h2
      obtain ⟨n3, rfl, rfl⟩ := int_of_trod h3
      obtain ⟨n4, rfl, rfl⟩ := int_of_trod h4
      obtain ⟨n5, rfl, rfl⟩ := int_of_trod h5
      simp [Rows.laid_example_com_corelay_corelay_pkg_bssgp_plmnDigitOctet] at hx
      obtain ⟨⟨rfl, rfl, rfl, rfl, rfl, rfl⟩, _⟩ := hx
      rfl
    · cases hd

/-- .. of errors.errorType. -/
theorem handle_of_laid {W : World} (h : handlesMet Ybaf.prog [("errors.errorType", Rows.laid_errors_errorType)] W) : W.cell? ⟨1, 0, none⟩ = some (.iface 96 (.agg #[.pointer (some ⟨3, 42, none⟩)])) := by
  obtain ⟨name, u, ty, e1, e2, e3, e4, e5⟩ := h _ (List.mem_singleton.2 rfl)
  have en : name = [101, 114, 114, 111, 114] := (Option.some.inj e1).symm
  subst en
  obtain rfl := Option.some.inj (Ybaf.rt.symm.trans e2)
  have hm : ty ∈ (List.range Ybaf.prog.types.size).filter fun t => Ybaf.prog.rowNamed t [101, 114, 114, 111, 114] := List.mem_filter.2 ⟨List.mem_range.2 e3, e4⟩
  rw [Ybaf.oneRow] at hm
  obtain rfl := List.mem_singleton.1 hm
  rw [Ybaf.handle42] at e5
  simpa using World.var?_cell Ybaf.gE e5 0

/-- The table, read as a variable. -/
theorem vars_read6 {H : Type} (enc : TypeId × Value → H) {W : World} (h : W.var? Ybaf.prog "example.com/corelay/corelay/pkg/bssgp.plmnDigitOctet" = some cells6) (sp : Nat → Bool) :
    DataW.TrodVars enc Ybaf.prog W sp ["example.com/corelay/corelay/pkg/bssgp.plmnDigitOctet"] [.agg [.lit (.int .i64 0), .lit (.int .i64 0), .lit (.int .i64 1), .lit (.int .i64 2), .lit (.int .i64 2), .lit (.int .i64 1)]] (MemPlace.row ⟨2, 0, none⟩ 6) := by
  refine ⟨2, 94, cells6, 2, [], [], Ybaf.gP, Ybaf.gPType, h, ?_, rfl, by simp [cells6]⟩
  have e : List.range 6 = [0, 1, 2, 3, 4, 5] := rfl
  have f0 : (Lit.int .i64 0).wf = true := by decide
  have f1 : (Lit.int .i64 1).wf = true := by decide
  have f2 : (Lit.int .i64 2).wf = true := by decide
  simp [DataW.trod, Ybaf.underlying94, Ybaf.underlying3, Ybaf.cells94, Ybaf.cells3, cells6, e, f0, f1, f2]

set_option maxRecDepth 100000 in
/-- From the reading to 'Items'. -/
theorem items {H : Type} {enc : TypeId × Value → H} {W : World} {sp : Nat → Bool} {held : Bool} {fuel : Nat} {a : Option Addr} {len cap : Nat} {x : DataW H × List MemPlace}
    (hf : DataW.trod enc Ybaf.prog W 0 sp held fuel 28 [.slice a len cap] = some x) : Items W a len := by
  rcases open_slice Ybaf.underlying28 hf with ⟨hcs, _⟩ | ⟨ad, l, c, m, n, D, Pl, hcs, _, hl, hm, hmm, _, hx⟩
  · simp at hcs
    exact .inl hcs.2.1
  · simp at hcs
    obtain ⟨rfl, rfl, rfl⟩ := hcs
    have hlm : len ≤ m := by rw [hmm]; split <;> omega
    by_cases h0 : len = 0
    · exact .inl h0
    right
    have each : ∀ i, i < m → ∃ v0 v1 v2 v3 v4 k, W.cell? (ad.add (i * 5)) = some v0 ∧ W.cell? (ad.add (i * 5 + 1)) = some v1 ∧ W.cell? (ad.add (i * 5 + 2)) = some v2 ∧ W.cell? (ad.add (i * 5 + 3)) = some v3 ∧ W.cell? (ad.add (i * 5 + 4)) = some v4 ∧
        (∃ y, DataW.trod enc Ybaf.prog W 0 sp held k 5 [v0] = some y) ∧ (∃ y, DataW.trod enc Ybaf.prog W 0 sp held k 29 [v1] = some y) ∧ (∃ y, DataW.trod enc Ybaf.prog W 0 sp held k 30 [v2] = some y) ∧ (∃ y, DataW.trod enc Ybaf.prog W 0 sp held k 4 [v3] = some y) ∧ (∃ y, DataW.trod enc Ybaf.prog W 0 sp held k 4 [v4] = some y) := by
      intro i hi
      obtain ⟨cs', h1, h2⟩ := hx i hi
      rw [Ybaf.cells57] at h1
      obtain ⟨_, hlen, hcell⟩ := World.cells?_some h1
      obtain ⟨xs, k, hk, hxy, _, hxl, hfd⟩ := DataW.trod_struct Ybaf.underlying57 h2
      match xs, hxl, cs', hlen with
      | [y0, y1, y2, y3, y4], _, [v0, v1, v2, v3, v4], _ =>
        have g0 := hfd 0 _ rfl
        have g1 := hfd 1 _ rfl
        have g2 := hfd 2 _ rfl
        have g3 := hfd 3 _ rfl
        have g4 := hfd 4 _ rfl
        simp [Ybaf.cells5, Ybaf.cells29, Ybaf.cells30, Ybaf.cells4] at g0 g1 g2 g3 g4
        have e0 := hcell 0 (by omega)
        have e1 := hcell 1 (by omega)
        have e2 := hcell 2 (by omega)
        have e3 := hcell 3 (by omega)
        have e4 := hcell 4 (by omega)
        rw [add_add] at e0 e1 e2 e3 e4
        exact ⟨v0, v1, v2, v3, v4, k, by simpa using e0, by simpa using e1, by simpa using e2, by simpa using e3, by simpa using e4, ⟨_, g0⟩, ⟨_, g1⟩, ⟨_, g2⟩, ⟨_, g3⟩, ⟨_, g4⟩⟩
    obtain ⟨b, off, spot⟩ := ad
    have hspot : spot = none := by
      obtain ⟨v0, v1, v2, v3, v4, k, c0, _⟩ := each 0 (by omega)
      simpa [Addr.add] using World.cell?_spot c0
    subst hspot
    refine ⟨b, off, rfl, ?_, ?_⟩
    · obtain ⟨v0, v1, v2, v3, v4, k, c0, _⟩ := each 0 (by omega)
      exact World.block_lt_of_cell? _ _ (by simpa [Addr.add] using c0)
    intro i hi
    obtain ⟨v0, v1, v2, v3, v4, k, c0, c1, c2, c3, c4, ⟨y0, t0⟩, ⟨y1, t1⟩, ⟨y2, t2⟩, ⟨y3, t3⟩, ⟨y4, t4⟩⟩ := each i (by omega)
    rw [add_plain] at c0 c1 c2 c3 c4
    obtain ⟨n0, e0, _, w0⟩ := DataW.trod_int Ybaf.underlying5 t0
    obtain ⟨n1, e1, _, w1⟩ := DataW.trod_int Ybaf.underlying29 t1
    obtain ⟨n3, e3, _⟩ := DataW.trod_bool Ybaf.underlying4 t3
    obtain ⟨n4, e4, _⟩ := DataW.trod_bool Ybaf.underlying4 t4
    simp at e0 e1 e3 e4
    subst e0 e1 e3 e4
    have hb0 := bounds_u8 w0
    have hb1 := bounds_u16 w1
    obtain ⟨k0, rfl⟩ := Int.eq_ofNat_of_zero_le hb0.1
    obtain ⟨k1, rfl⟩ := Int.eq_ofNat_of_zero_le hb1.1
    have key : ∃ ra rn rc, v2 = .slice ra rn rc ∧ rn ≤ rc ∧ SrcOf W ra rn W.heap.size := by
      rcases open_ints Ybaf.underlying30 Ybaf.underlying5 Ybaf.cells5 t2 with ⟨hcs, _⟩ | ⟨ad, l2, cp2, zs, hcs, _, hl2, hm2, hz, _, hcl, hwz⟩
      · simp at hcs
        exact ⟨none, 0, 0, hcs, Nat.le_refl _, .inl rfl⟩
      · simp at hcs
        refine ⟨some ad, l2, cp2, hcs, hl2, ?_⟩
        by_cases hl0 : l2 = 0
        · exact .inl hl0
        right
        have hle : l2 ≤ zs.length := by rw [hz]; split <;> omega
        have z0 := hcl 0 (by omega)
        obtain ⟨hb, ho, hsp⟩ := ad
        have hspot : hsp = none := by simpa [Addr.add] using World.cell?_spot z0
        subst hspot
        have hlt : hb < W.heap.size := World.block_lt_of_cell? _ _ (by simpa [Addr.add] using z0)
        refine ⟨hb, ho, fun j => zs.getD j 0, rfl, by omega, hlt, fun j hj => ?_⟩
        have := hcl j (by omega)
        rw [add_plain] at this
        refine ⟨this, ?_⟩
        have hj' : j < zs.length := by omega
        have hw := hwz (zs.getD j 0) (by
          rw [List.getD_eq_getElem?_getD, List.getElem?_eq_getElem hj']
          exact List.getElem_mem hj')
        exact bounds_u8 hw
    obtain ⟨ra, rn, rc, rfl, hrc, hsrc⟩ := key
    exact ⟨k0, k1, rn, rc, ra, n3, n4, ⟨c0, c1, c2, c3, c4, by omega, by omega, hrc, hsrc⟩⟩

/-- A world in which the two variables read as they are listed. -/
noncomputable def laidWorld (os : Os) : World :=
  let w0 := World.holding Ybaf.prog os ⟨#[], #[], []⟩
  { w0 with heap := (w0.heap.modify 1 fun
      | .cells _ t frozen => .cells #[.iface 96 (.agg #[.pointer (some ⟨3, 42, none⟩)])] t frozen
      | o => o).modify 2 fun
      | .cells _ t frozen => .cells cells6 t frozen
      | o => o }
theorem laid_met (os : Os) (args : Array Value) : laidMetH Ybaf.prog Rows.lawS4810BModelRow.laid ((laidWorld os).forCall (fun _ _ => 0) ⟨#[], args, []⟩).memory :=
  laidMetH_of_parts (laidMet_of_run (l := [("example.com/corelay/corelay/pkg/bssgp.plmnDigitOctet", Rows.laid_example_com_corelay_corelay_pkg_bssgp_plmnDigitOctet)]) (ps := [.cell 2 0, .cell 2 1, .cell 2 2, .cell 2 3, .cell 2 4, .cell 2 5]) 8 (by kernel_rfl) (by kernel_rfl) (by kernel_rfl)) (by kernel_rfl)

set_option maxRecDepth 100000 in
theorem lifted (os : Os) (started : os.Started) (H : Type) (enc : TypeId × Value → H) :
    ReturnsInTold none {} Ybaf.checked os 4 .any Input.okWide ((OpenSpec.ofChange Rows.lawS4810BModelSpec).preRow enc Ybaf.prog Ybaf.f4 Rows.lawS4810BModelRow.domain false Rows.lawS4810BModelRow.laid) (fun F => ((OpenSpec.ofChange Rows.lawS4810BModelSpec).at F).post enc Ybaf.prog Ybaf.f4 false true false false) (aloneAtReturn Ybaf.prog) nothingAlways := by
  refine returnsInTold_of_row (C := Ybaf.checked) (s := OpenSpec.ofChange Rows.lawS4810BModelSpec) (by kernel_rfl) Ybaf.own started (by kernel_rfl) Ybaf.func4
    (OpenSpec.witness_stopped_at (enc := enc) (C := Ybaf.checked) false (laidWorld os) #[.int .u8 0, .slice none 0 0, .bool false, .int .u16 0] rfl (by kernel_rfl) (by kernel_rfl) (by kernel_rfl)
      (OpenSpec.preRow_of_B rfl 8 (by kernel_rfl) (by kernel_rfl) (laid_met os _))) ?_
  intro F W base args ds gs before _ hF hval0 hW _ _ _ hL _
  have hval : ∀ (j : Nat) t v, Ybaf.f4.params[j]? = some t → args[j]? = some v → Value.okWide Ybaf.prog W .any base t v := hval0
  have hW' := hW
  obtain ⟨p, q, hA0, hV0, rfl, _, _⟩ := hW
  have hA : DataW.TrodAll enc Ybaf.prog W 0 (fun _ => true) true Ybaf.f4.params.toList args.toList ds p := hA0
  have hV : DataW.TrodVars enc Ybaf.prog W (fun _ => true) ["example.com/corelay/corelay/pkg/bssgp.plmnDigitOctet"] gs q := hV0
  rw [Ybaf.params4] at hA hval
  obtain ⟨v0, vs0, d0, ds0, p0, q0, hargs, rfl, rfl, h0, r0⟩ := trodAll_cons hA
  obtain ⟨v1, vs1, d1, ds1, p1, q1, rfl, rfl, rfl, h1, r1⟩ := trodAll_cons r0
  obtain ⟨v2, vs2, d2, ds2, p2, q2, rfl, rfl, rfl, h2, r2⟩ := trodAll_cons r1
  obtain ⟨v3, vs3, d3, ds3, p3, q3, rfl, rfl, rfl, h3, r3⟩ := trodAll_cons r2
  obtain ⟨rfl, rfl, rfl⟩ := trodAll_nil r3
  obtain rfl : args = #[v0, v1, v2, v3] := by cases args; simp_all
  obtain ⟨a0, rfl, rfl, rfl, w0⟩ := open_int Ybaf.underlying5 (hval 0 5 v0 rfl rfl) h0
  obtain ⟨a1, len1, cap1, rfl⟩ := okWide_slice Ybaf.underlying28 (hval 1 28 v1 rfl rfl)
  obtain ⟨a2, rfl, rfl, rfl⟩ := open_bool Ybaf.underlying4 (hval 2 4 v2 rfl rfl) h2
  obtain ⟨a3, rfl, rfl, rfl, w3⟩ := open_int Ybaf.underlying29 (hval 3 29 v3 rfl rfl) h3
  have k1 := h1
  have lt1 : ∀ x ∈ p1, x.block < W.heap.size := by obtain ⟨m, hm⟩ := k1; exact DataW.trod_lt m _ _ _ hm
  obtain ⟨fuel, hf⟩ := h1
  have hL' : laidMet Ybaf.prog [("example.com/corelay/corelay/pkg/bssgp.plmnDigitOctet", Rows.laid_example_com_corelay_corelay_pkg_bssgp_plmnDigitOctet)] W ∧ handlesMet Ybaf.prog [("errors.errorType", Rows.laid_errors_errorType)] W := hL
  have hvar := table_of_laid hL'.1
  have hE := handle_of_laid hL'.2
  obtain ⟨rfl, rfl⟩ := hV.unique (vars_read6 enc hvar _)
  have hT : Table W := by
    have hc : ∀ i, W.cell? ⟨2, i, none⟩ = cells6[i]? := fun i => World.var?_cell Ybaf.gP hvar i
    refine ⟨World.block_lt_of_cell? _ _ (hc 0), fun i hi => ?_⟩
    rw [hc i]
    obtain rfl | rfl | rfl | rfl | rfl | rfl : i = 0 ∨ i = 1 ∨ i = 2 ∨ i = 3 ∨ i = 4 ∨ i = 5 := by omega
    all_goals rfl
  have hI : Items W a1 len1 := items (by simpa [Value.cells] using hf)
  have hb0 := bounds_u8 w0
  have hb3 := bounds_u16 w3
  clear hA0 hV0 hval0
  have key : Calls Ybaf.prog 4 #[.int .u8 a0, .slice a1 len1 cap1, .bool a2, .int .u16 a3] W (Lawful W) := by
    by_cases hlen : len1 ≤ 300
    · obtain ⟨t, rfl⟩ := Int.eq_ofNat_of_zero_le hb0.1
      obtain ⟨c, rfl⟩ := Int.eq_ofNat_of_zero_le hb3.1
      exact law_some F.told t len1 cap1 c a1 a2 W hF hT hE (by omega) (by omega) hlen hI
    · exact law_long len1 cap1 a0 a3 a1 a2 W hlen
  refine key.mono fun e W' hlaw => ?_
  obtain ⟨he, bel⟩ := hlaw
  subst he
  exact ⟨_, rfl, _, _, _, [], _, _, hW', trodAll_mk1 (shut_bool Ybaf.underlying4 _), (trodAll_cons_mk (shut_int Ybaf.underlying5 w0) (trodAll_cons_mk (Below.trod Ybaf.laidOut' (by kernel_rfl) (of_decide_eq_true (by kernel_rfl)) k1 bel lt1) (trodAll_cons_mk (shut_bool Ybaf.underlying4 _) (trodAll_cons_mk (shut_int Ybaf.underlying29 w3) trodAll_mk0)))), vars_read6 enc (var?_below bel Ybaf.gP hT.1 hvar) _, bel.frame _, fun h => by cases h⟩

/-- THE STATEMENT. -/
theorem proved_model : Rows.LawS4810BModelToldSaid :=
  Claim7.holds_of_told_tied_any_at .later 4 Ybaf.f4 _ [] [] _ _ _ _ _ (by kernel_rfl) rfl rfl rfl Ybaf.laidOut (by kernel_rfl) rfl ⟨rfl, rfl, rfl, rfl, rfl, rfl, rfl⟩ rfl rfl (by kernel_rfl) (by kernel_rfl) Ybaf.func4 (by kernel_rfl)
    (of_decide_eq_true (by kernel_rfl)) (of_decide_eq_true (by kernel_rfl)) Ybaf.stops.symm rfl Ybaf.stopKnobs.symm (by kernel_rfl)
    (by kernel_rfl) (by kernel_rfl) (by kernel_rfl) (by kernel_rfl) (by kernel_rfl) (by kernel_rfl) (by kernel_rfl) (by kernel_rfl) (by kernel_rfl) rfl (by kernel_rfl) rfl rfl
    rfl rfl
    rfl (by kernel_rfl) (by kernel_rfl) (by kernel_rfl) (by decide) (by kernel_rfl) lawS4810BModel_row_tie
    (OpenClaim.moreEntering_of (by kernel_rfl) (by kernel_rfl) (by kernel_rfl) (by kernel_rfl) (by kernel_rfl) (by kernel_rfl) (by kernel_rfl) (by kernel_rfl) (by kernel_rfl) (by kernel_rfl))
    ⟨_, WideRow.started_initial, Ybaf.quiet _⟩
    (fun os started _ H enc _ => lifted os started H enc)
end Go.Proofs.YbulkcupaFmt
