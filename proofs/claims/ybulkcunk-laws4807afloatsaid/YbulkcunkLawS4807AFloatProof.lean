/-
  The proof of 'Rows.LawS4807AFloatSaid', in the frame of the kit's shell for laws over slices: the slice of floats is opened by the kit's 'open_slice1'.
-/
import Derived.Test.YbulkcunkFloatLaw
import Derived.ProofKit
import Derived.OpenShut
import Derived.ChangeOld
import Derived.Below
import Derived.Deep.Slices
namespace Go.Proofs.Ybulkcunk.lawS4807AFloat
open Go.ChangeShapes Go.WideShapes Go.ChangeAt Go.RowKit Go.Deep

theorem own : ownKnob Yba.prog.godebug = none := by kernel_rfl
theorem laidOut : laidOutB Yba.prog = true := by kernel_rfl
theorem cells45 : Yba.prog.cellsOf 45 = 1 := by kernel_rfl

/-- What the walk is told of the slice that came in: it has no element; or it leads to a row of floats. -/
def IsKeys (w : World) (a : Option Addr) (len : Nat) : Prop :=
  len = 0 ∨ ∃ (b off : Nat) (f : Nat → Nat), a = some ⟨b, off, none⟩ ∧ b < w.heap.size ∧ ∀ i, i < len → w.cell? ⟨b, off + i, none⟩ = some (.float .f64 (f i))

theorem walk (a : Option Addr) (len cap : Nat) (w : World) (hm : len ≤ maxLen) (h : IsKeys w a len) :
    Calls Yba.prog 4 #[.slice a len cap] w fun e w' => e = .returned (.bool true) ∧ Below w.heap.size w w' := by
  by_cases hl : len ≤ 1024
  · rcases h with rfl | ⟨b, off, f, rfl, hb, hc⟩
    · exact float_none a cap w
    · exact float_some b off len cap f w hl hb hc
  · exact float_long a len cap w hl hm

theorem trod_float {H : Type} {enc : TypeId × Value → H} {W : World} {sp : Nat → Bool} {held : Bool} {fuel : Nat} {v : Value} {x : DataW H × List MemPlace}
    (h : DataW.trod enc Yba.prog W 0 sp held fuel 45 [v] = some x) : ∃ b, v = .float .f64 b := by
  cases fuel with
  | zero => simp [DataW.trod] at h
  | succ n =>
    simp only [DataW.trod, Yba.underlying45] at h
    cases v <;> simp at h
    obtain ⟨⟨rfl, _⟩, _⟩ := h
    exact ⟨_, rfl⟩

/-- From the reading to 'IsKeys'. -/
theorem isKeys {H : Type} {enc : TypeId × Value → H} {W : World} {sp : Nat → Bool} {held : Bool} {fuel : Nat} {a : Option Addr} {len cap : Nat} {x : DataW H × List MemPlace}
    (hf : DataW.trod enc Yba.prog W 0 sp held fuel 40 [.slice a len cap] = some x) : len ≤ maxLen ∧ IsKeys W a len := by
  rcases open_slice1 Yba.underlying40 cells45 hf with ⟨hcs, _⟩ | ⟨ad, l, c, m, n, V, D, Pl, hcs, _, hl, hm, hmm, _, hx⟩
  · simp at hcs
    obtain ⟨_, rfl, _⟩ := hcs
    exact ⟨Nat.zero_le _, .inl rfl⟩
  · simp at hcs
    obtain ⟨rfl, rfl, rfl⟩ := hcs
    refine ⟨Nat.le_trans hl hm, ?_⟩
    have hlm : len ≤ m := by rw [hmm]; split <;> omega
    by_cases h0 : len = 0
    · exact .inl h0
    right
    obtain ⟨b, off, spot⟩ := ad
    have c0 := (hx 0 (by omega)).1
    have hspot : spot = none := by simpa [Addr.add] using World.cell?_spot c0
    subst hspot
    have each : ∀ i, i < m → ∃ q : Nat, V i = .float .f64 q := fun i hi => trod_float (hx i hi).2
    obtain ⟨q, hq⟩ := choose_lt each
    refine ⟨b, off, q, rfl, World.block_lt_of_cell? _ _ (by simpa [Addr.add] using c0), fun i hi => ?_⟩
    have := (hx i (by omega)).1
    rw [add_plain, hq i (by omega)] at this
    exact this

set_option maxRecDepth 100000 in
theorem lifted (os : Os) (started : os.Started) (H : Type) (enc : TypeId × Value → H) :
    ReturnsInHanded {} Yba.checked os 4 .any (Rows.lawS4807AFloatSpec.pre6 enc Yba.prog Yba.f4 Rows.lawS4807AFloatRow.domain false) (Rows.lawS4807AFloatSpec.post enc Yba.prog Yba.f4 false true false false) := by
  refine returnsInHanded_of_change (C := Yba.checked) own started (by kernel_rfl) Yba.func4
    (ChangeSpec.witness6 (enc := enc) (C := Yba.checked) false ⟨#[], #[.slice none 0 0], []⟩ 8 (by kernel_rfl) (by kernel_rfl) (by kernel_rfl) (by kernel_rfl)) ?_
  intro W base args ds gs before hval0 hW hcnd _
  have hval : ∀ (j : Nat) t v, Yba.f4.params[j]? = some t → args[j]? = some v → Value.okWide Yba.prog W .any base t v := hval0
  have hW' := hW
  obtain ⟨p, q, hA0, hV, rfl, hfz, hnd⟩ := hW
  have hA : DataW.TrodAll enc Yba.prog W 0 (fun _ => true) true Yba.f4.params.toList args.toList ds p := hA0
  rw [Yba.params4] at hA hval
  obtain ⟨v0, vs0, d0, ds0, p0, q0, hargs, rfl, rfl, h0, r0⟩ := trodAll_cons hA
  obtain ⟨rfl, rfl, rfl⟩ := trodAll_nil r0
  obtain rfl : args = #[v0] := by cases args; simp_all
  obtain ⟨rfl, rfl⟩ := trodVars_none hV
  obtain ⟨a0, len0, cap0, rfl⟩ := okWide_slice Yba.underlying40 (hval 0 40 v0 rfl rfl)
  have k0 := h0
  have lt0 : ∀ x ∈ p0, x.block < W.heap.size := by obtain ⟨m, hm⟩ := k0; exact DataW.trod_lt m _ _ _ hm
  obtain ⟨hm, hkeys⟩ : len0 ≤ maxLen ∧ IsKeys W a0 len0 := by
    obtain ⟨fuel, hf⟩ := h0
    exact isKeys (by simpa [Value.cells] using hf)
  clear hA0 hval0
  refine (walk a0 len0 cap0 W hm hkeys).mono fun e W' ⟨he, bel⟩ => ?_
  subst he
  exact ⟨_, rfl, _, _, _, [], _, [], hW', trodAll_mk1 (shut_bool Yba.underlying4 _), (trodAll_cons_mk (Below.trod laidOut (by kernel_rfl) (of_decide_eq_true (by kernel_rfl)) k0 bel lt0) trodAll_mk0), rfl, bel.frame _, fun h => by cases h⟩

theorem over : Rows.lawS4807AFloatRow.holds Yba.pinned (OpenSpec.ofChange Rows.lawS4807AFloatSpec) :=
  OpenClaim.holds_of_wide 4 Yba.f4 rfl rfl rfl rfl rfl rfl rfl ⟨rfl, rfl, rfl, rfl, rfl⟩ rfl rfl rfl rfl rfl (by kernel_rfl) Yba.func4 (by kernel_rfl)
    (of_decide_eq_true (by kernel_rfl)) (by unfold Func.isWrapper; first | (rw [if_pos (by decide +kernel)]; kernel_rfl) | (rw [if_neg (by decide +kernel)]; exact ⟨rfl, rfl⟩))
    (fun os started H enc _ => lifted os started H enc)

/-- THE STATEMENT. -/
theorem proved : Rows.LawS4807AFloatSaid := over
end Go.Proofs.Ybulkcunk.lawS4807AFloat
