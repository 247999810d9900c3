/-
  The proof of 'Rows.LawS4807AScriptSaid', in the frame of the kit's shell for laws over slices: the slice of structs is opened by the kit's 'open_slice_pairs'.
-/
import Derived.Test.YbulkcunkScript
import Derived.ProofKit
import Derived.OpenShut
import Derived.ChangeOld
import Derived.Below
import Derived.Deep.SlicePairs
namespace Go.Proofs.Ybulkcunk.lawS4807AScript
open Go.ChangeShapes Go.WideShapes Go.ChangeAt Go.RowKit Go.Deep

theorem own : ownKnob Yba.prog.godebug = none := by kernel_rfl
theorem laidOut : laidOutB Yba.prog = true := by kernel_rfl
theorem cells36 : Yba.prog.cellsOf 36 = 2 := by kernel_rfl
theorem cells5 : Yba.prog.cellsOf 5 = 1 := by kernel_rfl
theorem cells34 : Yba.prog.cellsOf 34 = 1 := by kernel_rfl

/-- What the walk is told of the slice that came in: it has no element; or it leads to a row of pairs. -/
def IsOps (w : World) (a : Option Addr) (len : Nat) : Prop :=
  len = 0 ∨ ∃ (b off : Nat) (o kk : Nat → Int), a = some ⟨b, off, none⟩ ∧ b < w.heap.size ∧ (∀ i, i < len → w.cell? ⟨b, off + i * 2, none⟩ = some (.int .u8 (o i))) ∧ (∀ i, i < len → w.cell? ⟨b, off + i * 2 + 1, none⟩ = some (.int .i8 (kk i))) ∧
    (∀ i, i < len → 0 ≤ o i ∧ o i ≤ 255) ∧ (∀ i, i < len → -128 ≤ kk i ∧ kk i ≤ 127)

theorem walk (a : Option Addr) (len cap : Nat) (w : World) (hm : len ≤ maxLen) (h : IsOps w a len) :
    Calls Yba.prog 3 #[.slice a len cap] w fun e w' => e = .returned (.bool true) ∧ Below w.heap.size w w' := by
  by_cases hl : len ≤ 1024
  · rcases h with rfl | ⟨b, off, o, kk, rfl, hb, ho, hk, ob, kb⟩
    · exact script_none a cap w
    · exact script_some b off len cap o kk w hl hb ho hk ob kb
  · exact script_long a len cap w hl hm

/-- From the reading to 'IsOps'. -/
theorem isOps {H : Type} {enc : TypeId × Value → H} {W : World} {sp : Nat → Bool} {held : Bool} {fuel : Nat} {a : Option Addr} {len cap : Nat} {x : DataW H × List MemPlace}
    (hf : DataW.trod enc Yba.prog W 0 sp held fuel 22 [.slice a len cap] = some x) : len ≤ maxLen ∧ IsOps W a len := by
  rcases open_slice_pairs Yba.underlying22 Yba.underlying36 cells36 rfl rfl cells5 cells34 hf with ⟨hcs, _⟩ | ⟨ad, l, c, m, n, V0, V1, D0, D1, P0, P1, hcs, _, hl, hm, hmm, _, hx⟩
  · simp at hcs
    obtain ⟨_, rfl, _⟩ := hcs
    exact ⟨Nat.zero_le _, .inl rfl⟩
  · simp at hcs
    obtain ⟨rfl, rfl, rfl⟩ := hcs
    refine ⟨Nat.le_trans hl hm, ?_⟩
    have hlm : len ≤ m := by rw [hmm]; split <;> omega
    by_cases h0 : len = 0
    · exact .inl h0
    right
    obtain ⟨b, off, spot⟩ := ad
    have c0 := (hx 0 (by omega)).1
    have hspot : spot = none := by simpa [Addr.add] using World.cell?_spot c0
    subst hspot
    have each : ∀ i, i < m → ∃ q : Int × Int, V0 i = .int .u8 q.1 ∧ V1 i = .int .i8 q.2 ∧ (Lit.int .u8 q.1).wf = true ∧ (Lit.int .i8 q.2).wf = true := by
      intro i hi
      obtain ⟨_, _, t0, t1⟩ := hx i hi
      obtain ⟨x0, e0, _, w0⟩ := DataW.trod_int Yba.underlying5 t0
      obtain ⟨x1, e1, _, w1⟩ := DataW.trod_int Yba.underlying34 t1
      simp at e0 e1
      exact ⟨(x0, x1), e0, e1, w0, w1⟩
    obtain ⟨q, hq⟩ := choose_lt each
    refine ⟨b, off, fun i => (q i).1, fun i => (q i).2, rfl, World.block_lt_of_cell? _ _ (by simpa [Addr.add] using c0), fun i hi => ?_, fun i hi => ?_, fun i hi => bounds_u8 (hq i (by omega)).2.2.1, fun i hi => bounds_i8 (hq i (by omega)).2.2.2⟩
    · have := (hx i (by omega)).1
      rw [add_plain, (hq i (by omega)).1] at this
      exact this
    · have := (hx i (by omega)).2.1
      rw [add_plain, (hq i (by omega)).2.1] at this
      exact this

set_option maxRecDepth 100000 in
theorem lifted (os : Os) (started : os.Started) (H : Type) (enc : TypeId × Value → H) :
    ReturnsInHanded {} Yba.checked os 3 .any (Rows.lawS4807AScriptSpec.pre6 enc Yba.prog Yba.f3 Rows.lawS4807AScriptRow.domain false) (Rows.lawS4807AScriptSpec.post enc Yba.prog Yba.f3 false true false false) := by
  refine returnsInHanded_of_change (C := Yba.checked) own started (by kernel_rfl) Yba.func3
    (ChangeSpec.witness6 (enc := enc) (C := Yba.checked) false ⟨#[], #[.slice none 0 0], []⟩ 8 (by kernel_rfl) (by kernel_rfl) (by kernel_rfl) (by kernel_rfl)) ?_
  intro W base args ds gs before hval0 hW hcnd _
  have hval : ∀ (j : Nat) t v, Yba.f3.params[j]? = some t → args[j]? = some v → Value.okWide Yba.prog W .any base t v := hval0
  have hW' := hW
  obtain ⟨p, q, hA0, hV, rfl, hfz, hnd⟩ := hW
  have hA : DataW.TrodAll enc Yba.prog W 0 (fun _ => true) true Yba.f3.params.toList args.toList ds p := hA0
  rw [Yba.params3] at hA hval
  obtain ⟨v0, vs0, d0, ds0, p0, q0, hargs, rfl, rfl, h0, r0⟩ := trodAll_cons hA
  obtain ⟨rfl, rfl, rfl⟩ := trodAll_nil r0
  obtain rfl : args = #[v0] := by cases args; simp_all
  obtain ⟨rfl, rfl⟩ := trodVars_none hV
  obtain ⟨a0, len0, cap0, rfl⟩ := okWide_slice Yba.underlying22 (hval 0 22 v0 rfl rfl)
  have k0 := h0
  have lt0 : ∀ x ∈ p0, x.block < W.heap.size := by obtain ⟨m, hm⟩ := k0; exact DataW.trod_lt m _ _ _ hm
  obtain ⟨hm, hops⟩ : len0 ≤ maxLen ∧ IsOps W a0 len0 := by
    obtain ⟨fuel, hf⟩ := h0
    exact isOps (by simpa [Value.cells] using hf)
  clear hA0 hval0
  refine (walk a0 len0 cap0 W hm hops).mono fun e W' ⟨he, bel⟩ => ?_
  subst he
  exact ⟨_, rfl, _, _, _, [], _, [], hW', trodAll_mk1 (shut_bool Yba.underlying4 _), (trodAll_cons_mk (Below.trod laidOut (by kernel_rfl) (of_decide_eq_true (by kernel_rfl)) k0 bel lt0) trodAll_mk0), rfl, bel.frame _, fun h => by cases h⟩

theorem over : Rows.lawS4807AScriptRow.holds Yba.pinned (OpenSpec.ofChange Rows.lawS4807AScriptSpec) :=
  OpenClaim.holds_of_wide 3 Yba.f3 rfl rfl rfl rfl rfl rfl rfl ⟨rfl, rfl, rfl, rfl, rfl⟩ rfl rfl rfl rfl rfl (by kernel_rfl) Yba.func3 (by kernel_rfl)
    (of_decide_eq_true (by kernel_rfl)) (by unfold Func.isWrapper; first | (rw [if_pos (by decide +kernel)]; kernel_rfl) | (rw [if_neg (by decide +kernel)]; exact ⟨rfl, rfl⟩))
    (fun os started H enc _ => lifted os started H enc)

/-- THE STATEMENT. -/
theorem proved : Rows.LawS4807AScriptSaid := over
end Go.Proofs.Ybulkcunk.lawS4807AScript
