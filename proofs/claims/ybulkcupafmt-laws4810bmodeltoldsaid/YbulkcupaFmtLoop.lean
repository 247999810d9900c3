/-
  'for ie, err := range IEs(pdu, 1) { .. }': the law of the loop, over any body: what a round must achieve, and what stands behind the loop.
-/
import Derived.Test.YbulkcupaFmtIter
import Derived.Test.YbulkcupaFmtRange
namespace Go.Proofs.YbulkcupaFmt
open Go.RowKit Go.Extern.Stop Go.Stop Go.Extern Go.Shelf

theorem Kept.putObj {S : Nat → Prop} {w w' : World} (h : Kept S w w') {l : Nat} (hl : S l ∨ w.heap.size ≤ l) (o : Obj) : Kept S w (w'.putObj l o) :=
  ⟨h.os, h.tape, h.output, by simpa [World.putObj] using h.size, fun k hk hs => (World.putObj_heap_other (by rintro rfl; exact hl.elim hs (fun h' => absurd hk (Nat.not_lt.2 h')))).trans (h.block k hk hs)⟩

/-- How a round's body may be left. -/
def roundEnd (S : Nat → Prop) (I : World → Prop) (Ix : Code → World → Prop) (Y : World) : Exit → Act → World → Prop
  | .normal, _, W' => Kept S Y W' ∧ I W'
  | .ret, _, W' => Kept S Y W' ∧ Ix .ret W'
  | .exit id, _, W' => Kept S Y W' ∧ Ix (.exit id) W'
  | _, _, _ => False

theorem range_ies (F : Interp) (ob qb g N cap : Nat) (R : Nat → Nat) {n : Nat} (h2 : 2 ≤ n) {g0 : Operand} {ps : Array Tmp} {assign body : Code} {Q : Exit → Act → World → Prop} {a : Act} {w : World}
    (hg : a.eval g0 = .func (.func 24) #[] #[.pointer (some ⟨ob, 0, none⟩), .pointer (some ⟨qb, 0, none⟩)]) (hps : ps.size = 2) (S : Nat → Prop) (I : Nat → World → Prop) (Ix : Code → World → Prop)
    (s1 : ¬ S ob) (s2 : ¬ S qb) (s3 : ¬ S g) (hSb : ∀ k, S k → k < w.heap.size) (n1 : ob ≠ qb) (n2 : ob ≠ g) (hcap : N ≤ cap)
    (hI : ∀ off W W', I off W → Kept (fun k => k = ob ∨ w.heap.size ≤ k) W W' → I off W') (hIx : ∀ c W W', Ix c W → Kept (fun k => w.heap.size ≤ k ∧ k < w.heap.size + 2) W W' → Ix c W')
    (hp : Pdu w g N R) (hob : Box w ob [.int .i64 1]) (hqb : Box w qb [.slice (some ⟨g, 0, none⟩) N cap]) (hF : F.answers w.tape) (h0 : I 1 w)
    (hok : ∀ l off V p len aa c, w.heap.size ≤ l → l < w.heap.size + 2 → w.heap.size + 2 ≤ V.heap.size → I off V → off < N → ieAt R N off = .ok p len → (0 < len → aa = some ⟨g, p, none⟩ ∧ len ≤ c) → assign.wpIn (Fence.wide.inRound l) (n - 1 - 1) Ybaf.prog
      (Exit.then (fun a₁ w₁ => Kept (fun _ => False) V w₁ ∧ ∀ Y, Kept (· = l) w₁ Y → body.wpIn (Fence.wide.inRound l) (n - 1 - 1) Ybaf.prog (roundEnd S (I (p + len)) Ix Y) a₁ Y) (fun _ _ _ => False))
      { tmps := (ps.zip #[.agg #[.int .u8 (R off : Int), .slice aa len c, .int .i64 (off : Int), .int .i64 (p : Int)], .nilIface]).foldl (fun tmps (t, a) => tmps.setIfInBounds t a) a.tmps, defers := [] } V)
    (hbad : ∀ l off V o q, w.heap.size ≤ l → l < w.heap.size + 2 → w.heap.size + 2 ≤ V.heap.size → I off V → off < N → ieAt R N off = .bad o → V.cell? ⟨q, 0, none⟩ = some (.int .i64 (o : Int)) → ¬ (w.heap.size ≤ q ∧ q < w.heap.size + 2) → assign.wpIn (Fence.wide.inRound l) (n - 1 - 1) Ybaf.prog
      (Exit.then (fun a₁ w₁ => Kept (fun _ => False) V w₁ ∧ ∀ Y, Kept (· = l) w₁ Y → body.wpIn (Fence.wide.inRound l) (n - 1 - 1) Ybaf.prog (roundEnd S (fun _ => False) Ix Y) a₁ Y) (fun _ _ _ => False))
      { tmps := (ps.zip #[.agg #[.int .u8 0, .slice none (0 : Nat) (0 : Nat), .int .i64 0, .int .i64 0], .iface 48 (.pointer (some ⟨q, 0, none⟩))]).foldl (fun tmps (t, a) => tmps.setIfInBounds t a) a.tmps, defers := [] } V)
    (hdone : ∀ off W, N ≤ off → I off W → W.heap[w.heap.size]? = some (.deferred (some [])) → Q .normal { a with defers := [{ target := .collected w.heap.size, args := #[] }] ++ a.defers } W)
    (hstop : ∀ c W, Ix c W → W.heap[w.heap.size]? = some (.deferred (some [])) → c.wpIn Fence.wide n Ybaf.prog Q { a with defers := [{ target := .collected w.heap.size, args := #[] }] ++ a.defers } W) :
    (Code.rangeFunc g0 ps assign body).wpIn Fence.wide n Ybaf.prog Q a w := by
  refine range_enter rfl (fun _ => trivial) (by omega) hg (enters_of Ybaf.func24 (by kernel_rfl) rfl) fun fn => ?_
  obtain ⟨rec, hrec⟩ : ∃ rec : LoopState → Option Code → Loop, rec = fun st pe => { state := st, pending := pe, fn := fn, tmps := a.tmps, params := ps, assign := assign, body := body, defers := w.heap.size } := ⟨_, rfl⟩
  have hrec0 : rec .ready none = { state := .ready, pending := none, fn := fn, tmps := a.tmps, params := ps, assign := assign, body := body, defers := w.heap.size } := by rw [hrec]
  rw [← hrec0]
  obtain ⟨W1, hW1⟩ : ∃ W1, W1 = (w.alloc (.deferred (some []))).alloc (.loop (rec .ready none)) := ⟨_, rfl⟩
  have hL1 : W1.heap[w.heap.size + 1]? = some (.loop (rec .ready none)) := by
    rw [hW1]; have := World.alloc_heap_new (w.alloc (.deferred (some []))) (.loop (rec .ready none)); rwa [World.size_alloc] at this
  have hD1 : W1.heap[w.heap.size]? = some (.deferred (some [])) := by
    rw [hW1]; exact (Below.heap_alloc _ _ _ (by simp)).trans (World.alloc_heap_new w _)
  have z1 : W1.heap.size = w.heap.size + 2 := by rw [hW1]; simp
  have k1 : Kept (fun _ => False) w W1 := by rw [hW1]; exact (Kept.alloc (Kept.refl _ w) _).alloc _
  rw [← hW1]
  clear hW1 hrec0
  have hobl := hob.lt
  -- what stands between two rounds
  obtain ⟨J, hJd⟩ : ∃ J : Nat → World → Prop, J = fun off W => I off W ∧ W.heap[w.heap.size + 1]? = some (.loop (rec .ready none)) ∧ W.heap[w.heap.size]? = some (.deferred (some [])) := ⟨_, rfl⟩
  obtain ⟨Jx, hJxd⟩ : ∃ Jx : World → Prop, Jx = fun W => ∃ c, Ix c W ∧ W.heap[w.heap.size + 1]? = some (.loop (rec .done (some c))) ∧ W.heap[w.heap.size]? = some (.deferred (some [])) := ⟨_, rfl⟩
  -- a round, whatever it is handed
  have hround : ∀ (V : World) (args : Array Value) (In : World → Prop), args.size = 2 → V.heap[w.heap.size + 1]? = some (.loop (rec .ready none)) → V.heap[w.heap.size]? = some (.deferred (some [])) →
      (∀ W W', In W → Kept (fun k => k = ob ∨ w.heap.size ≤ k) W W' → In W') →
      assign.wpIn (Fence.wide.inRound (w.heap.size + 1)) (n - 1 - 1) Ybaf.prog
        (Exit.then (fun a₁ w₁ => Kept (fun _ => False) V w₁ ∧ ∀ Y, Kept (· = w.heap.size + 1) w₁ Y → body.wpIn (Fence.wide.inRound (w.heap.size + 1)) (n - 1 - 1) Ybaf.prog (roundEnd S In Ix Y) a₁ Y) (fun _ _ _ => False))
        { tmps := (ps.zip args).foldl (fun tmps (t, a) => tmps.setIfInBounds t a) a.tmps, defers := [] } V →
      YieldAt Fence.wide (n - 1 - 1) Ybaf.prog (w.heap.size + 1) args V fun e W' =>
        (e = .returned (.bool true) ∧ (In W' ∧ W'.heap[w.heap.size + 1]? = some (.loop (rec .ready none)) ∧ W'.heap[w.heap.size]? = some (.deferred (some []))) ∧ Kept (fun k => S k ∨ k = w.heap.size + 1) V W') ∨ (e = .returned (.bool false) ∧ Jx W') := by
    intro V args In hsz hl hd hIn hw
    refine round_enter hl (by rw [hrec]; exact hsz.trans hps.symm) ?_
    have hw' : (rec .ready none).assign.wpIn (Fence.wide.inRound (w.heap.size + 1)) (n - 1 - 1) Ybaf.prog
        (Exit.then (fun a₁ w₁ => Kept (fun _ => False) V w₁ ∧ ∀ Y, Kept (· = w.heap.size + 1) w₁ Y → body.wpIn (Fence.wide.inRound (w.heap.size + 1)) (n - 1 - 1) Ybaf.prog (roundEnd S In Ix Y) a₁ Y) (fun _ _ _ => False))
        { tmps := ((rec .ready none).params.zip args).foldl (fun tmps (t, a) => tmps.setIfInBounds t a) (rec .ready none).tmps, defers := [] } V := by rw [hrec]; exact hw
    refine wpIn_mono hw' ?_
    intro e a₁ w₁ hq
    cases e with
    | normal =>
      obtain ⟨kv, hb⟩ := hq
      have hlt : w.heap.size + 1 < V.heap.size := (Array.getElem?_eq_some_iff.1 hl).1
      have hlv : w₁.heap[w.heap.size + 1]? = some (.loop (rec .ready none)) := (kv.block _ hlt id).trans hl
      have hlt1 : w.heap.size + 1 < w₁.heap.size := (Array.getElem?_eq_some_iff.1 hlv).1
      have hdv : w₁.heap[w.heap.size]? = some (.deferred (some [])) := (kv.block _ (by omega) id).trans hd
      refine ⟨_, run_beginRound hlv (by rw [hrec]), ?_⟩
      obtain ⟨Y, hY⟩ : ∃ Y, Y = w₁.putObj (w.heap.size + 1) (.loop { rec .ready none with state := .busy }) := ⟨_, rfl⟩
      have kY : Kept (· = w.heap.size + 1) w₁ Y := by rw [hY]; exact Kept.putObj (S := (· = w.heap.size + 1)) (Kept.refl _ _) (.inl rfl) _
      have hlY : Y.heap[w.heap.size + 1]? = some (.loop { rec .ready none with state := .busy }) := by rw [hY]; exact World.putObj_heap_same hlt1
      have hdY : Y.heap[w.heap.size]? = some (.deferred (some [])) := by rw [hY]; exact (World.putObj_heap_other (by omega)).trans hdv
      rw [← hY]
      have zY : w.heap.size + 1 < Y.heap.size := (Array.getElem?_eq_some_iff.1 hlY).1
      have hb' : (rec .ready none).body.wpIn (Fence.wide.inRound (w.heap.size + 1)) (n - 1 - 1) Ybaf.prog (roundEnd S In Ix Y) a₁ Y := by rw [hrec]; exact hb Y kY
      clear hY hb
      have fin : ∀ (jump : Option Code) (W3 : World), Kept S Y W3 →
          (Instr.endRound (w.heap.size + 1) jump).run Ybaf.prog W3 = .ok (.bool jump.isNone) (W3.putObj (w.heap.size + 1) (.loop (rec (if jump.isNone then .ready else .done) jump))) ∧
          (W3.putObj (w.heap.size + 1) (.loop (rec (if jump.isNone then .ready else .done) jump))).heap[w.heap.size + 1]? = some (.loop (rec (if jump.isNone then .ready else .done) jump)) ∧
          (W3.putObj (w.heap.size + 1) (.loop (rec (if jump.isNone then .ready else .done) jump))).heap[w.heap.size]? = some (.deferred (some [])) := fun jump W3 k3 => by
        have hl3 := (k3.block _ zY (fun h => by have := hSb _ h; omega)).trans hlY
        have hd3 := (k3.block _ (by omega) (fun h => by have := hSb _ h; omega)).trans hdY
        have := run_endRound (P := Ybaf.prog) jump hl3
        rw [hrec] at this ⊢
        exact ⟨this, World.putObj_heap_same (Array.getElem?_eq_some_iff.1 hl3).1, (World.putObj_heap_other (by omega)).trans hd3⟩
      refine wpIn_mono hb' ?_
      intro e a3 W3 hp3
      cases e with
      | normal =>
        obtain ⟨k3, hi3⟩ := hp3
        obtain ⟨hr, hl4, hd4⟩ := fin none W3 k3
        refine ⟨_, _, hr, .inl ⟨rfl, ⟨hIn _ _ hi3 ((Kept.refl _ _).putObj (.inl (.inr (by omega))) _), hl4, hd4⟩, ?_⟩⟩
        exact (((kv.mono fun _ _ h => h.elim).trans (kY.mono fun _ _ h => .inr h)).trans (k3.mono fun _ _ h => .inl h)).putObj (.inl (.inr rfl)) _
      | ret =>
        obtain ⟨k3, hi3⟩ := hp3
        obtain ⟨hr, hl4, hd4⟩ := fin (some .ret) W3 k3
        refine ⟨_, _, hr, .inr ⟨rfl, ?_⟩⟩
        rw [hJxd]
        exact ⟨.ret, hIx _ _ _ hi3 ((Kept.refl _ _).putObj (.inl ⟨by omega, by omega⟩) _), hl4, hd4⟩
      | exit id =>
        obtain ⟨k3, hi3⟩ := hp3
        obtain ⟨hr, hl4, hd4⟩ := fin (some (.exit id)) W3 k3
        refine ⟨_, _, hr, .inr ⟨rfl, ?_⟩⟩
        rw [hJxd]
        exact ⟨.exit id, hIx _ _ _ hi3 ((Kept.refl _ _).putObj (.inl ⟨by omega, by omega⟩) _), hl4, hd4⟩
      | goto t => exact hp3.elim
      | panic ch => exact hp3.elim
      | outgrown => exact hp3.elim
    | ret => exact hq.elim
    | exit id => exact hq.elim
    | goto t => exact hq.elim
    | panic ch => exact hq.elim
    | outgrown => exact hq.elim
  have hit := iter_any F (n - 1) (w.heap.size + 1) ob qb g N cap (w.heap.size + 2) R (fun k => S k ∨ k = w.heap.size + 1) J Jx (by omega) (fun h => h.elim s1 (fun h => by omega)) (fun h => h.elim s2 (fun h => by have := hqb.lt; omega)) (fun h => h.elim s3 (fun h => by have := hp.lt; omega))
    (fun k h => h.elim (fun h => by have := hSb k h; omega) (fun h => by omega)) n1 n2 hcap
    (fun off W W' h k => by
      rw [hJd] at h ⊢
      obtain ⟨hi, hl, hd⟩ := h
      exact ⟨hI _ _ _ hi (k.mono fun _ _ h => .inl h), (k.block _ (Array.getElem?_eq_some_iff.1 hl).1 (by show ¬ w.heap.size + 1 = ob; omega)).trans hl, (k.block _ (Array.getElem?_eq_some_iff.1 hd).1 (by show ¬ w.heap.size = ob; omega)).trans hd⟩)
    (fun off V p len aa c h hlt hie ha => by
      rw [hJd] at h
      obtain ⟨hi, hl, hd⟩ := h
      have hz : w.heap.size + 2 ≤ V.heap.size := by have := (Array.getElem?_eq_some_iff.1 hl).1; omega
      have := hround V _ (I (p + len)) rfl hl hd (fun W W' => hI _ W W') (hok _ off V p len aa c (by omega) (by omega) hz hi hlt hie ha)
      rw [hJd]
      exact this)
    (fun off V o q h hlt hie hq => by
      rw [hJd] at h
      obtain ⟨hi, hl, hd⟩ := h
      have hz : w.heap.size + 2 ≤ V.heap.size := by have := (Array.getElem?_eq_some_iff.1 hl).1; omega
      have hne : ¬ (w.heap.size ≤ q ∧ q < w.heap.size + 2) := by
        rintro ⟨ha, hb⟩
        obtain rfl | rfl : q = w.heap.size ∨ q = w.heap.size + 1 := by omega
        · simp [World.cell?, hd] at hq
        · simp [World.cell?, hl] at hq
      have := hround V _ (fun _ => False) rfl hl hd (fun W W' h _ => h) (hbad _ off V o q (by omega) (by omega) hz hi hlt hie hq hne)
      obtain ⟨f1, t1, a1, b1, hy, hR⟩ := this
      exact ⟨f1, t1, a1, b1, hy, hR.mono fun e W' h => by
        rcases h with ⟨_, ⟨h, _⟩, _⟩ | h
        · exact h.elim
        · exact h⟩)
    W1 (by omega) (hp.kept k1 id) (hob.kept k1 id) (hqb.kept k1 id) (by rw [k1.tape]; exact hF) (by rw [hJd]; exact ⟨hI _ _ _ h0 (k1.mono fun _ _ h => h.elim), hL1, hD1⟩)
  refine hit.mono ?_
  rintro e W2 ⟨⟨v, rfl⟩, (⟨off, hoff, h⟩ | h)⟩
  · rw [hJd] at h
    obtain ⟨hi, hl, hd⟩ := h
    exact ⟨none, _, by have := run_endLoop (P := Ybaf.prog) hl (by rw [hrec]; simp); rw [hrec] at this; exact this, hdone off _ hoff (hI _ _ _ hi ((Kept.refl _ _).putObj (.inl (.inr (by omega))) _)) ((World.putObj_heap_other (by omega)).trans hd)⟩
  · rw [hJxd] at h
    obtain ⟨c, hi, hl, hd⟩ := h
    exact ⟨some c, _, by have := run_endLoop (P := Ybaf.prog) hl (by rw [hrec]; simp); rw [hrec] at this; exact this, hstop c _ (hIx _ _ _ hi ((Kept.refl _ _).putObj (.inl ⟨by omega, by omega⟩) _)) ((World.putObj_heap_other (by omega)).trans hd)⟩
end Go.Proofs.YbulkcupaFmt
