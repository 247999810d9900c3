/-
  The proof of 'Rows.LawS4808ARoundTripSaid', in the frame of the seat's shell ('Below' in the place of 'Grown'): the walk is ours.
-/
import Derived.Test.YbulkcunyRows
import Derived.WalkKit
import Derived.ProofKit
import Derived.OpenShut
import Derived.ShutString
import Derived.Below
import Derived.Test.YbulkcunyTrip
namespace Go.Proofs.Ybulkcuny.lawS4808ARoundTrip
open Go.ChangeShapes Go.WideShapes Go.ChangeAt Go.RowKit
open Go.ChangeMaps (open_string shut_string)
set_option linter.unusedVariables false      -- a walk need not use every 'w<i>' (that an integer argument fits its kind)

theorem own : ownKnob Yba.prog.godebug = none := by kernel_rfl

/-! ### STEP 1: THE WALK: the Go text returns true, and writes nothing that was there. -/
theorem walk (a0 : ByteArray) (a1 : Bool) (w0 : a0.size ≤ maxLen) (w : World) :
    Calls Yba.prog 4 #[.string a0, .bool a1] w fun e w' => e = .returned (.bool true) ∧ Below w.heap.size w w' := by
  unfold maxLen at w0
  by_cases hl : a0.size ≤ 4096
  · cases a1
    · have he := eq27 0 0
      go_enter Yba.func4, Yba.ntmps4
      go_wp2_with (first | (go_at_call 6; refine (leader0 _).mono ?_; rintro e w' ⟨rfl, rfl⟩) | (go_at_call 5; refine (mark_below 0 _).mono ?_; rintro e w1 ⟨rfl, hg1⟩))
      refine (unmark0 _ a0 a0.size _ hl (size_snoc a0 45) (last_snoc a0 45) (init_snoc a0 45)).mono ?_
      rintro e w2 ⟨rfl, hg2⟩
      have hz1 : w.heap.size + 1 + 1 < w1.heap.size := by have := hg1.size; simp at this; omega
      have hz2 : w.heap.size + 1 + 1 < w2.heap.size := Nat.lt_of_lt_of_le hz1 hg2.size
      have hc : w2.cell? ⟨w.heap.size + 1 + 1, 0, none⟩ = some (.int .u32 0) := by
        rw [hg2.cell (p := ⟨w.heap.size + 1 + 1, 0, none⟩) hz1, hg1.cell (p := ⟨w.heap.size + 1 + 1, 0, none⟩) (by simp)]
        go_simp
      have hb : Below w.heap.size w w2 := ((((((Below.refl _ w).alloc (Nat.le_refl _) (.cells #[.int .u32 0] 27)).alloc (by simp) (.cells #[.int .u32 0] 27)).alloc (by simp; omega) (.cells #[.int .u32 0] 27)).trans (hg1.mono (by simp; omega))).trans (hg2.mono (by omega)))
      go_wp2
      go_ret
      exact ⟨by simp, hb.alloc (by omega) _⟩
    · have he := eq27 1 1
      go_enter Yba.func4, Yba.ntmps4
      go_wp2_with (first | (go_at_call 6; refine (leader1 _).mono ?_; rintro e w' ⟨rfl, rfl⟩) | (go_at_call 5; refine (mark_below 1 _).mono ?_; rintro e w1 ⟨rfl, hg1⟩))
      refine (unmark1 _ a0 a0.size _ hl (size_snoc a0 43) (last_snoc a0 43) (init_snoc a0 43)).mono ?_
      rintro e w2 ⟨rfl, hg2⟩
      have hz1 : w.heap.size + 1 + 1 < w1.heap.size := by have := hg1.size; simp at this; omega
      have hz2 : w.heap.size + 1 + 1 < w2.heap.size := Nat.lt_of_lt_of_le hz1 hg2.size
      have hc : w2.cell? ⟨w.heap.size + 1 + 1, 0, none⟩ = some (.int .u32 1) := by
        rw [hg2.cell (p := ⟨w.heap.size + 1 + 1, 0, none⟩) hz1, hg1.cell (p := ⟨w.heap.size + 1 + 1, 0, none⟩) (by simp)]
        go_simp
      have hb : Below w.heap.size w w2 := ((((((Below.refl _ w).alloc (Nat.le_refl _) (.cells #[.int .u32 1] 27)).alloc (by simp) (.cells #[.int .u32 1] 27)).alloc (by simp; omega) (.cells #[.int .u32 1] 27)).trans (hg1.mono (by simp; omega))).trans (hg2.mono (by omega)))
      go_wp2
      go_ret
      exact ⟨by simp, hb.alloc (by omega) _⟩
  · go_enter Yba.func4, Yba.ntmps4
    go_wp2
    go_ret
    exact ⟨rfl, Below.refl _ _⟩

/-! ### THE ROW's STEP: WRITTEN OUT: LEAVE IT -/
set_option maxRecDepth 100000 in
theorem lifted (os : Os) (started : os.Started) (H : Type) (enc : TypeId × Value → H) :
    ReturnsInHanded {} Yba.checked os 4 .any (Rows.lawS4808ARoundTripSpec.pre6 enc Yba.prog Yba.f4 Rows.lawS4808ARoundTripRow.domain false) (Rows.lawS4808ARoundTripSpec.post enc Yba.prog Yba.f4 false true false false) := by
  refine returnsInHanded_of_change (C := Yba.checked) own started (by kernel_rfl) Yba.func4
    (ChangeSpec.witness6 (enc := enc) (C := Yba.checked) false ⟨#[], #[.string ByteArray.empty, .bool false], []⟩ 8 (by kernel_rfl) (by kernel_rfl) (by kernel_rfl) (by kernel_rfl)) ?_
  intro W base args ds gs before hval0 hW hcnd _
  have hval : ∀ (j : Nat) t v, Yba.f4.params[j]? = some t → args[j]? = some v → Value.okWide Yba.prog W .any base t v := hval0
  have hW' := hW
  obtain ⟨p, q, hA0, hV, rfl, hfz, hnd⟩ := hW
  have hA : DataW.TrodAll enc Yba.prog W 0 (fun _ => true) true Yba.f4.params.toList args.toList ds p := hA0
  rw [Yba.params4] at hA hval
  obtain ⟨v0, vs0, d0, ds0, p0, q0, hargs, rfl, rfl, h0, r0⟩ := trodAll_cons hA
  obtain ⟨v1, vs1, d1, ds1, p1, q1, rfl, rfl, rfl, h1, r1⟩ := trodAll_cons r0
  obtain ⟨rfl, rfl, rfl⟩ := trodAll_nil r1
  obtain rfl : args = #[v0, v1] := by cases args; simp_all
  obtain ⟨rfl, rfl⟩ := trodVars_none hV
  obtain ⟨a0, rfl, rfl, rfl, w0⟩ := open_string Yba.underlying9 (hval 0 9 v0 rfl rfl) h0
  obtain ⟨a1, rfl, rfl, rfl⟩ := open_bool Yba.underlying4 (hval 1 4 v1 rfl rfl) h1
  clear hA0 hval0
  simp only [List.append_nil] at hW'
  refine (walk a0 a1 w0 W).mono fun e W' ⟨he, bel⟩ => ?_
  subst he
  exact ⟨_, rfl, _, _, _, [], [], [], hW', trodAll_mk1 (shut_bool Yba.underlying4 _), (trodAll_cons_mk (shut_string Yba.underlying9 w0) (trodAll_cons_mk (shut_bool Yba.underlying4 _) trodAll_mk0)), rfl, bel.frame _, fun h => by cases h⟩

theorem over : Rows.lawS4808ARoundTripRow.holds Yba.pinned (OpenSpec.ofChange Rows.lawS4808ARoundTripSpec) :=
  OpenClaim.holds_of_wide 4 Yba.f4 rfl rfl rfl rfl rfl rfl rfl ⟨rfl, rfl, rfl, rfl, rfl⟩ rfl rfl rfl rfl rfl (by kernel_rfl) Yba.func4 (by kernel_rfl)
    (of_decide_eq_true (by kernel_rfl)) (by unfold Func.isWrapper; first | (rw [if_pos (by decide +kernel)]; kernel_rfl) | (rw [if_neg (by decide +kernel)]; exact ⟨rfl, rfl⟩))
    (fun os started H enc _ => lifted os started H enc)

/-- ████ THE STATEMENT ████ -/
theorem proved : Rows.LawS4808ARoundTripSaid :=
  over
end Go.Proofs.Ybulkcuny.lawS4808ARoundTrip
