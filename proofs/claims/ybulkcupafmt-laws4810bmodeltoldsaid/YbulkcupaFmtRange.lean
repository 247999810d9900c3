/-
  A range over a function, entered, and one round of it: over any program (for an iterator that keeps its state in cells of its own, which the kit's iterator contracts leave out).
-/
import Derived.RangeFuncNested
namespace Go.Proofs.YbulkcupaFmt
open Go.RowKit

/-- A range over a function, entered: the loop's record and the block for deferred calls are laid; the iterator is called. -/
theorem range_enter {F : Fence} {n : Nat} {P : Program} {g : Operand} {ps : Array Tmp} {assign body : Code} {Q : Exit → Act → World → Prop} {a : Act} {w : World} (hro : F.round = none) (hF : ∀ f, F.fn f) (h1 : 1 ≤ n) {gf : Nat} {lb : Array Value} (hg : a.eval g = .func (.func gf) #[] lb) (eg : ∀ args w, (callFunc gf args).run P w = .ok (.enter gf args) w)
    (h : ∀ fn : FuncId, CallsIn F (n - 1) P gf (#[.func (.yield (w.heap.size + 1)) #[] #[]] ++ lb) ((w.alloc (.deferred (some []))).alloc (.loop { state := .ready, pending := none, fn := fn, tmps := a.tmps, params := ps, assign := assign, body := body, defers := w.heap.size : Loop }))
      (rangePost F n P (w.heap.size + 1) Q { a with defers := [{ target := .collected w.heap.size, args := #[] }] ++ a.defers })) :
    (Code.rangeFunc g ps assign body).wpIn F n P Q a w := by
  refine wpIn_rangeFunc ?_
  intro fn hfn
  rw [hro]
  obtain ⟨W1, hW1⟩ : ∃ W1, W1 = (w.alloc (.deferred (some []))).alloc (.loop { state := .ready, pending := none, fn := fn, tmps := a.tmps, params := ps, assign := assign, body := body, defers := w.heap.size : Loop }) := ⟨_, rfl⟩
  have h' := h fn
  rw [← hW1] at h'
  refine ⟨w.heap.size + 1, [{ target := .collected w.heap.size, args := #[] }], W1, { target := .fn (.func gf) lb, args := #[.func (.yield (w.heap.size + 1)) #[] #[]] }, W1, gf, #[.func (.yield (w.heap.size + 1)) #[] #[]] ++ lb, W1, ?_, ?_, ?_, ?_, fun _ => h1, ?_⟩
  · rw [hW1]; exact run_enterLoop_outer _ _ _ _ _
  · simp only [resolve, hg]; simp [go_sem]
  · intro f' _; exact hF f'
  · simp [invoke, go_sem, eg]
  · exact h'

/-- A round: the left sides are assigned; the record is busy; the body is walked. -/
theorem round_enter {m l : Nat} {P : Program} {r : Loop} {args : Array Value} {V : World} {Rp : Ending → World → Prop} (hl : V.heap[l]? = some (.loop r)) (hs : args.size = r.params.size)
    (h : r.assign.wpIn (Fence.wide.inRound l) m P (Exit.then (fun a₁ w₁ => ∃ w₂, (Instr.beginRound l).run P w₁ = .ok () w₂ ∧ r.body.wpIn (Fence.wide.inRound l) m P (roundPost P l Rp) a₁ w₂) (fun _ _ _ => False))
      { tmps := (r.params.zip args).foldl (fun tmps (t, a) => tmps.setIfInBounds t a) r.tmps, defers := [] } V) : YieldAt Fence.wide m P l args V Rp :=
  ⟨_, _, _, _, run_yield hl hs, roundIn_of_wpIn trivial h⟩

end Go.Proofs.YbulkcupaFmt
