/-
  Variables of the call's own ('Box'), and DecodeRAI.
-/
import Derived.Test.YbulkcupaFmtPlmn
namespace Go.Proofs.YbulkcupaFmt
open Go.RowKit Go.Extern.Stop Go.Stop Go.Extern

/-- A variable of the call's own: block b holds vs, and no string shares it. -/
structure Box (w : World) (b : Nat) (vs : List Value) : Prop where
  lt : b < w.heap.size
  cell : ∀ j v, vs[j]? = some v → w.cell? ⟨b, j, none⟩ = some v
  frz : ∀ j, w.frozen? ⟨b, j, none⟩ = false

theorem Box.kept {S : Nat → Prop} {w w' : World} {b : Nat} {vs : List Value} (h : Box w b vs) (k : Kept S w w') (hs : ¬ S b) : Box w' b vs :=
  ⟨Nat.lt_of_lt_of_le h.lt k.size, fun j v hv => (k.cell (p := ⟨b, j, none⟩) h.lt hs).trans (h.cell j v hv), fun j => (k.frozen (p := ⟨b, j, none⟩) h.lt hs).trans (h.frz j)⟩
theorem Box.below {w w' : World} {b : Nat} {vs : List Value} (h : Box w b vs) (k : Below w.heap.size w w') : Box w' b vs := h.kept (Kept.ofBelow k (fun _ => False)) id
theorem Box.alloc {w : World} {b : Nat} {vs : List Value} (h : Box w b vs) (o : Obj) : Box (w.alloc o) b vs := h.kept (S := fun _ => False) (Kept.alloc (Kept.refl _ w) o) id
theorem Box.new (w : World) (cs : Array Value) (t : TypeId) : Box (w.alloc (.cells cs t)) w.heap.size cs.toList := by
  have hg : (w.alloc (.cells cs t)).heap[w.heap.size]? = some (.cells cs t (0, 0)) := (MapKept.heap_alloc w _).1
  refine ⟨by simp, fun j v hv => ?_, fun j => ?_⟩
  · simp only [World.cell?, hg]
    simpa using hv
  · simp only [World.frozen?, hg]
    simp
theorem Box.set {w : World} {b : Nat} {vs : List Value} (h : Box w b vs) (us : List Value) (hl : us.length = vs.length) : Box (w.setCells b 0 us) b us := by
  have hsz : ∀ (vs : List Value) (o : Nat) (W : World), (W.setCells b o vs).heap.size = W.heap.size := by
    intro vs
    induction vs with
    | nil => intro o W; rfl
    | cons v vs ih => intro o W; rw [World.setCells, ih]; simp [World.setCell]
  refine ⟨by rw [hsz]; exact h.lt, fun j v hv => ?_, fun j => by rw [World.frozen?_setCells]; exact h.frz j⟩
  obtain ⟨hj, rfl⟩ := List.getElem?_eq_some_iff.1 hv
  have := World.cell?_setCells_in b us 0 w (fun i hi => by
    rw [Nat.zero_add, h.cell i _ (List.getElem?_eq_getElem (by omega))]; rfl) j hj
  rwa [Nat.zero_add] at this
theorem Box.set1 {w : World} {b : Nat} {vs : List Value} (h : Box w b vs) (j : Nat) (v : Value) (hj : j < vs.length) : Box (w.setCell ⟨b, j, none⟩ v) b (vs.set j v) := by
  refine ⟨by simpa [World.setCell] using h.lt, fun i u hu => ?_, fun i => by rw [World.frozen?_setCell]; exact h.frz i⟩
  by_cases e : i = j
  · subst e
    rw [List.getElem?_set_self hj] at hu
    cases hu
    exact World.cell?_setCell_same w ⟨b, i, none⟩ _ (h.cell i _ (List.getElem?_eq_getElem hj))
  · rw [List.getElem?_set_ne (by omega)] at hu
    exact (World.cell?_setCell_other w ⟨b, j, none⟩ ⟨b, i, none⟩ _ (by simp <;> omega)).trans (h.cell i u hu)

/-- What DecodeRAI leaves: four cells and nil, or an error. -/
def Rai (x : Nat → Nat) (off : Nat) (w : World) (e : Ending) (w' : World) : Prop :=
  (match badDig (x 0) (x 1) (x 2) with
    | none => e = .returned (.tuple #[.agg #[.string (strOf 3 fun j => 48 + dig (x 0) (x 1) (x 2) j), .string (strOf (nDig (x 1) - 3) fun j => 48 + dig (x 0) (x 1) (x 2) (3 + j)), .int .u16 ((x 3 : Int) * 256 + x 4), .int .u8 (x 5 : Int)], .nilIface])
    | some i => ∃ q, e = .returned (.tuple #[.agg #[.string ⟨#[]⟩, .string ⟨#[]⟩, .int .u16 0, .int .u8 0], .iface 48 (.pointer (some ⟨q, 0, none⟩))]) ∧ w.heap.size ≤ q ∧ w'.cell? ⟨q, 0, none⟩ = some (.int .i64 ((off + octet i : Nat) : Int))) ∧ Below w.heap.size w w'

set_option maxRecDepth 100000 in
set_option maxHeartbeats 1000000 in
theorem rai_any (F : Interp) (g p c off : Nat) (x : Nat → Nat) (w : World) (hF : F.answers w.tape) (hT : Table w) (hg : g < w.heap.size) (hcap : 8 ≤ c) (hoff : off ≤ 65535) (hb : ∀ j, j < 8 → x j < 256) (hc : ∀ j, j < 8 → w.cell? ⟨g, p + j, none⟩ = some (.int .u8 (x j : Int))) :
    Calls Ybaf.prog 27 #[.slice (some ⟨g, p, none⟩) (8 : Nat) c, .int .i64 off] w (Rai x off w) := by
  obtain ⟨W, hW⟩ : ∃ W, W = w.alloc (.cells #[.string ⟨#[]⟩, .string ⟨#[]⟩, .int .u16 0, .int .u8 0] 36) := ⟨_, rfl⟩
  have bW : Below w.heap.size w W := by rw [hW]; go_grown
  have r0 : Box W w.heap.size [.string ⟨#[]⟩, .string ⟨#[]⟩, .int .u16 0, .int .u8 0] := by rw [hW]; exact Box.new w _ _
  have cW : ∀ j, j < 8 → W.cell? ⟨g, p + j, none⟩ = some (.int .u8 (x j : Int)) := fun j hj => (bW.cell (p := ⟨g, p + j, none⟩) hg).trans (hc j hj)
  have zW := r0.lt
  have hP := plmn_any F g p 8 c (x 0) (x 1) (x 2) off W (by rw [bW.tape]; exact hF) ⟨by have := hT.1; omega, fun i hi => (bW.cell (p := ⟨2, i, none⟩) hT.1).trans (hT.2 i hi)⟩ (by omega) (by omega) hoff (hb 0 (by omega)) (hb 1 (by omega)) (hb 2 (by omega)) (cW 0 (by omega)) (cW 1 (by omega)) (cW 2 (by omega))
  go_enter Ybaf.func27, Ybaf.ntmps27
  go_wp2_with fail
  rw [← hW]
  refine hP.mono ?_
  clear hP hW
  rintro e V ⟨he, bV⟩
  have rV := r0.below bV
  have zV := bV.size
  have bwV : Below w.heap.size w V := bW.trans (bV.mono (by omega))
  unfold Rai
  cases hbd : badDig (x 0) (x 1) (x 2) with
  | some i =>
    rw [hbd] at he
    obtain ⟨q, rfl, hq, hqc⟩ := he
    have rU := rV.alloc (.cells #[.string ⟨#[]⟩, .string ⟨#[]⟩] 34)
    have u0 := rU.cell 0 _ rfl
    have u1 := rU.cell 1 _ rfl
    have u2 := rU.cell 2 _ rfl
    have u3 := rU.cell 3 _ rfl
    have uf := rU.frz
    have rX := rU.set [.string ⟨#[]⟩, .string ⟨#[]⟩, .int .u16 0, .int .u8 0] rfl
    have hbb : Below w.heap.size w (((((V.alloc (.cells #[.string ⟨#[]⟩, .string ⟨#[]⟩] 34)).setCell ⟨w.heap.size, 0, none⟩ (.string ⟨#[]⟩)).setCell ⟨w.heap.size, 1, none⟩ (.string ⟨#[]⟩)).setCell ⟨w.heap.size, 2, none⟩ (.int .u16 0)).setCell ⟨w.heap.size, 3, none⟩ (.int .u8 0)) := by go_grown
    have hqq : (((((V.alloc (.cells #[.string ⟨#[]⟩, .string ⟨#[]⟩] 34)).setCell ⟨w.heap.size, 0, none⟩ (.string ⟨#[]⟩)).setCell ⟨w.heap.size, 1, none⟩ (.string ⟨#[]⟩)).setCell ⟨w.heap.size, 2, none⟩ (.int .u16 0)).setCell ⟨w.heap.size, 3, none⟩ (.int .u8 0)).cell? ⟨q, 0, none⟩ = some (.int .i64 ((off + octet i : Nat) : Int)) := by
      exact ((Kept.setCells (S := (· = w.heap.size)) w.heap.size [.string ⟨#[]⟩, .string ⟨#[]⟩, .int .u16 0, .int .u8 0] 0 (Kept.alloc (Kept.refl _ V) (.cells #[.string ⟨#[]⟩, .string ⟨#[]⟩] 34)) (.inl rfl)).cell (p := ⟨q, 0, none⟩) (World.block_lt_of_cell? _ _ hqc) (by show ¬ q = w.heap.size; omega)).trans hqc
    go_wp2_with fail
    have y0 := rX.cell 0 _ rfl
    have y1 := rX.cell 1 _ rfl
    have y2 := rX.cell 2 _ rfl
    have y3 := rX.cell 3 _ rfl
    simp only [World.setCells, Nat.zero_add, Nat.reduceAdd] at y0 y1 y2 y3
    refine bodyPost_ret (by simp [results, Ybaf.results27, go_sem, y0, y1, y2, y3]; rfl) rfl ?_
    refine ⟨?_, hbb⟩
    rw [hbd]
    exact ⟨_, rfl, by omega, hqq⟩
  | none =>
    rw [hbd] at he
    subst he
    have rU := rV.alloc (.cells #[.string (strOf 3 fun j => 48 + dig (x 0) (x 1) (x 2) j), .string (strOf (nDig (x 1) - 3) fun j => 48 + dig (x 0) (x 1) (x 2) (3 + j))] 34)
    obtain ⟨U, hU⟩ : ∃ U, U = V.alloc (.cells #[.string (strOf 3 fun j => 48 + dig (x 0) (x 1) (x 2) j), .string (strOf (nDig (x 1) - 3) fun j => 48 + dig (x 0) (x 1) (x 2) (3 + j))] 34) := ⟨_, rfl⟩
    have bU : Below V.heap.size V U := by rw [hU]; go_grown
    have zU : V.heap.size < U.heap.size := by rw [hU]; simp
    have cU : ∀ j, j < 8 → U.cell? ⟨g, p + j, none⟩ = some (.int .u8 (x j : Int)) := fun j hj => (bU.cell (p := ⟨g, p + j, none⟩) (by show g < V.heap.size; omega)).trans ((bV.cell (p := ⟨g, p + j, none⟩) (by show g < W.heap.size; omega)).trans (cW j hj))
    have c3 := cU 3 (by omega)
    have c4 := cU 4 (by omega)
    have c5 := cU 5 (by omega)
    have b3 := hb 3 (by omega)
    have b4 := hb 4 (by omega)
    have s0 : U.cell? ⟨V.heap.size, 0, none⟩ = some (.string (strOf 3 fun j => 48 + dig (x 0) (x 1) (x 2) j)) := by rw [hU]; go_simp
    have s1 : U.cell? ⟨V.heap.size, 1, none⟩ = some (.string (strOf (nDig (x 1) - 3) fun j => 48 + dig (x 0) (x 1) (x 2) (3 + j))) := by rw [hU]; go_simp
    rw [← hU] at rU
    have u0 := rU.cell 0 _ rfl
    have u1 := rU.cell 1 _ rfl
    have u2 := rU.cell 2 _ rfl
    have u3 := rU.cell 3 _ rfl
    have uf := rU.frz
    have hc3 : (3 : Int) ≤ c := by omega
    have hc5 : (5 : Int) ≤ c := by omega
    have hc30 : ¬ c = 3 := by omega
    have n1 : g ≠ U.heap.size := by omega
    have n2 : V.heap.size ≠ U.heap.size := by omega
    have n3 : w.heap.size ≠ U.heap.size := by omega
    go_wp2_with fail
    rw [← hU]
    clear hU cU cW hc hb
    go_region_with (go_at_call 16; refine (uint16 g (p + 3) 2 (c - 3) (x 3) (x 4) _ (by simp; omega) (by omega) (by simpa using c3) (by simpa [Nat.add_assoc] using c4) b3 b4).mono ?_; rintro e w2 ⟨rfl, hw2⟩; have bw2 : Below U.heap.size U w2 := (by obtain ⟨q, rfl⟩ := hw2; exact below_drewN (by go_grown) q); have c5' := (bw2.cell (p := ⟨g, p + 5, none⟩) (by show g < U.heap.size; omega)).trans c5; have rw2 := rU.below bw2; have v0 := rw2.cell 0 _ rfl; have v1 := rw2.cell 1 _ rfl; have v2 := rw2.cell 2 _ rfl; have v3 := rw2.cell 3 _ rfl; have vf := rw2.frz; have t0 := (bw2.cell (p := ⟨V.heap.size, 0, none⟩) (by show V.heap.size < U.heap.size; omega)).trans s0; have t1 := (bw2.cell (p := ⟨V.heap.size, 1, none⟩) (by show V.heap.size < U.heap.size; omega)).trans s1; clear hw2)
    all_goals (go_wp2_with fail)
    all_goals
      have rX := rw2.set [.string (strOf 3 fun j => 48 + dig (x 0) (x 1) (x 2) j), .string (strOf (nDig (x 1) - 3) fun j => 48 + dig (x 0) (x 1) (x 2) (3 + j)), .int .u16 ((x 3 : Int) * 256 + x 4), .int .u8 (x 5 : Int)] rfl
      have y0 := rX.cell 0 _ rfl
      have y1 := rX.cell 1 _ rfl
      have y2 := rX.cell 2 _ rfl
      have y3 := rX.cell 3 _ rfl
      simp only [World.setCells, Nat.zero_add, Nat.reduceAdd] at y0 y1 y2 y3
      refine bodyPost_ret (by simp [results, Ybaf.results27, go_sem, y0, y1, y2, y3]; rfl) (by simp [go_sem]) ?_
      refine ⟨by rw [hbd], ?_⟩
      exact (Kept.setCells (S := (· = w.heap.size)) w.heap.size [.string (strOf 3 fun j => 48 + dig (x 0) (x 1) (x 2) j), .string (strOf (nDig (x 1) - 3) fun j => 48 + dig (x 0) (x 1) (x 2) (3 + j)), .int .u16 ((x 3 : Int) * 256 + x 4), .int .u8 (x 5 : Int)] 0 (Kept.ofBelow ((bwV.trans (bU.mono (by omega))).trans (bw2.mono (by omega))) _) (.inr (Nat.le_refl _))).below (fun k h => by omega) (Nat.le_refl _)
end Go.Proofs.YbulkcupaFmt
