/-
  DecodeCell.
-/
import Derived.Test.YbulkcupaFmtRai
namespace Go.Proofs.YbulkcupaFmt
open Go.RowKit Go.Extern.Stop Go.Stop Go.Extern

/-- The five cells of a Cell. -/
def cellOf (x : Nat → Nat) : List Value := [.string (strOf 3 fun j => 48 + dig (x 0) (x 1) (x 2) j), .string (strOf (nDig (x 1) - 3) fun j => 48 + dig (x 0) (x 1) (x 2) (3 + j)), .int .u16 ((x 3 : Int) * 256 + x 4), .int .u8 (x 5 : Int), .int .u16 ((x 6 : Int) * 256 + x 7)]

/-- What DecodeCell leaves. -/
def Celled (x : Nat → Nat) (off : Nat) (w : World) (e : Ending) (w' : World) : Prop :=
  (match badDig (x 0) (x 1) (x 2) with
    | none => e = .returned (.tuple #[.agg (cellOf x).toArray, .nilIface])
    | some i => ∃ q, e = .returned (.tuple #[.agg #[.string ⟨#[]⟩, .string ⟨#[]⟩, .int .u16 0, .int .u8 0, .int .u16 0], .iface 48 (.pointer (some ⟨q, 0, none⟩))]) ∧ w.heap.size ≤ q ∧ w'.cell? ⟨q, 0, none⟩ = some (.int .i64 ((off + octet i : Nat) : Int))) ∧ Below w.heap.size w w'

set_option maxRecDepth 100000 in
set_option maxHeartbeats 1000000 in
theorem cell_any (F : Interp) (g p c off : Nat) (x : Nat → Nat) (w : World) (hF : F.answers w.tape) (hT : Table w) (hg : g < w.heap.size) (hcap : 8 ≤ c) (hoff : off ≤ 65535) (hb : ∀ j, j < 8 → x j < 256) (hc : ∀ j, j < 8 → w.cell? ⟨g, p + j, none⟩ = some (.int .u8 (x j : Int))) :
    Calls Ybaf.prog 17 #[.slice (some ⟨g, p, none⟩) (8 : Nat) c, .int .i64 off] w (Celled x off w) := by
  obtain ⟨W, hW⟩ : ∃ W, W = w.alloc (.cells #[.string ⟨#[]⟩, .string ⟨#[]⟩, .int .u16 0, .int .u8 0, .int .u16 0] 38) := ⟨_, rfl⟩
  have bW : Below w.heap.size w W := by rw [hW]; go_grown
  have r0 : Box W w.heap.size [.string ⟨#[]⟩, .string ⟨#[]⟩, .int .u16 0, .int .u8 0, .int .u16 0] := by rw [hW]; exact Box.new w _ _
  have cW : ∀ j, j < 8 → W.cell? ⟨g, p + j, none⟩ = some (.int .u8 (x j : Int)) := fun j hj => (bW.cell (p := ⟨g, p + j, none⟩) hg).trans (hc j hj)
  have zW := r0.lt
  have hP := rai_any F g p c off x W (by rw [bW.tape]; exact hF) ⟨by have := hT.1; omega, fun i hi => (bW.cell (p := ⟨2, i, none⟩) hT.1).trans (hT.2 i hi)⟩ (by omega) hcap hoff hb cW
  go_enter Ybaf.func17, Ybaf.ntmps17
  go_wp2_with fail
  rw [← hW]
  refine hP.mono ?_
  clear hP hW
  rintro e V ⟨he, bV⟩
  have rV := r0.below bV
  have zV := bV.size
  have bwV : Below w.heap.size w V := bW.trans (bV.mono (by omega))
  unfold Celled
  cases hbd : badDig (x 0) (x 1) (x 2) with
  | some i =>
    rw [hbd] at he
    obtain ⟨q, rfl, hq, hqc⟩ := he
    have rU := rV.alloc (.cells #[.string ⟨#[]⟩, .string ⟨#[]⟩, .int .u16 0, .int .u8 0] 36)
    have u0 := rU.cell 0 _ rfl
    have u1 := rU.cell 1 _ rfl
    have u2 := rU.cell 2 _ rfl
    have u3 := rU.cell 3 _ rfl
    have u4 := rU.cell 4 _ rfl
    have uf := rU.frz
    have rX := rU.set [.string ⟨#[]⟩, .string ⟨#[]⟩, .int .u16 0, .int .u8 0, .int .u16 0] rfl
    have hkk := Kept.setCells (S := (· = w.heap.size)) w.heap.size [.string ⟨#[]⟩, .string ⟨#[]⟩, .int .u16 0, .int .u8 0, .int .u16 0] 0 (Kept.alloc (Kept.refl _ V) (.cells #[.string ⟨#[]⟩, .string ⟨#[]⟩, .int .u16 0, .int .u8 0] 36)) (.inl rfl)
    have hbb := bwV.trans (hkk.below (B := w.heap.size) (fun k h => by omega) (by omega))
    have hqq := (hkk.cell (p := ⟨q, 0, none⟩) (World.block_lt_of_cell? _ _ hqc) (by show ¬ q = w.heap.size; omega)).trans hqc
    clear hkk
    go_wp2_with fail
    have y0 := rX.cell 0 _ rfl
    have y1 := rX.cell 1 _ rfl
    have y2 := rX.cell 2 _ rfl
    have y3 := rX.cell 3 _ rfl
    have y4 := rX.cell 4 _ rfl
    simp only [World.setCells, Nat.zero_add, Nat.reduceAdd] at y0 y1 y2 y3 y4
    refine bodyPost_ret (by simp [results, Ybaf.results17, go_sem, y0, y1, y2, y3, y4]; rfl) rfl ?_
    refine ⟨?_, hbb⟩
    rw [hbd]
    exact ⟨_, rfl, by omega, hqq⟩
  | none =>
    rw [hbd] at he
    subst he
    have rU := rV.alloc (.cells #[.string (strOf 3 fun j => 48 + dig (x 0) (x 1) (x 2) j), .string (strOf (nDig (x 1) - 3) fun j => 48 + dig (x 0) (x 1) (x 2) (3 + j)), .int .u16 ((x 3 : Int) * 256 + x 4), .int .u8 (x 5 : Int)] 36)
    obtain ⟨U, hU⟩ : ∃ U, U = V.alloc (.cells #[.string (strOf 3 fun j => 48 + dig (x 0) (x 1) (x 2) j), .string (strOf (nDig (x 1) - 3) fun j => 48 + dig (x 0) (x 1) (x 2) (3 + j)), .int .u16 ((x 3 : Int) * 256 + x 4), .int .u8 (x 5 : Int)] 36) := ⟨_, rfl⟩
    have bU : Below V.heap.size V U := by rw [hU]; go_grown
    have zU : V.heap.size < U.heap.size := by rw [hU]; simp
    have cU : ∀ j, j < 8 → U.cell? ⟨g, p + j, none⟩ = some (.int .u8 (x j : Int)) := fun j hj => (bU.cell (p := ⟨g, p + j, none⟩) (by show g < V.heap.size; omega)).trans ((bV.cell (p := ⟨g, p + j, none⟩) (by show g < W.heap.size; omega)).trans (cW j hj))
    have c6 := cU 6 (by omega)
    have c7 := cU 7 (by omega)
    have b6 := hb 6 (by omega)
    have b7 := hb 7 (by omega)
    have sU : Box U V.heap.size [.string (strOf 3 fun j => 48 + dig (x 0) (x 1) (x 2) j), .string (strOf (nDig (x 1) - 3) fun j => 48 + dig (x 0) (x 1) (x 2) (3 + j)), .int .u16 ((x 3 : Int) * 256 + x 4), .int .u8 (x 5 : Int)] := by rw [hU]; exact Box.new V _ _
    have s0 := sU.cell 0 _ rfl
    have s1 := sU.cell 1 _ rfl
    have s2 := sU.cell 2 _ rfl
    have s3 := sU.cell 3 _ rfl
    rw [← hU] at rU
    have u0 := rU.cell 0 _ rfl
    have u1 := rU.cell 1 _ rfl
    have u2 := rU.cell 2 _ rfl
    have u3 := rU.cell 3 _ rfl
    have u4 := rU.cell 4 _ rfl
    have uf := rU.frz
    have hc3 : (6 : Int) ≤ c := by omega
    have hc5 : (8 : Int) ≤ c := by omega
    have hc30 : ¬ c = 6 := by omega
    have n1 : g ≠ U.heap.size := by omega
    have n2 : V.heap.size ≠ U.heap.size := by omega
    have n3 : w.heap.size ≠ U.heap.size := by omega
    go_wp2_with fail
    rw [← hU]
    clear hU cU cW hc hb
    go_region_with (go_at_call 16; refine (uint16 g (p + 6) 2 (c - 6) (x 6) (x 7) _ (by simp; omega) (by omega) (by simpa using c6) (by simpa [Nat.add_assoc] using c7) b6 b7).mono ?_; rintro e w2 ⟨rfl, hw2⟩; have bw2 : Below U.heap.size U w2 := (by obtain ⟨q, rfl⟩ := hw2; exact below_drewN (by go_grown) q); have rw2 := rU.below bw2; have v0 := rw2.cell 0 _ rfl; have v1 := rw2.cell 1 _ rfl; have v2 := rw2.cell 2 _ rfl; have v3 := rw2.cell 3 _ rfl; have v4 := rw2.cell 4 _ rfl; have vf := rw2.frz; have tU := sU.below bw2; have t0 := tU.cell 0 _ rfl; have t1 := tU.cell 1 _ rfl; have t2 := tU.cell 2 _ rfl; have t3 := tU.cell 3 _ rfl; clear hw2)
    all_goals (go_wp2_with fail)
    all_goals
      have rX := rw2.set (cellOf x) rfl
      have y0 := rX.cell 0 _ rfl
      have y1 := rX.cell 1 _ rfl
      have y2 := rX.cell 2 _ rfl
      have y3 := rX.cell 3 _ rfl
      have y4 := rX.cell 4 _ rfl
      simp only [cellOf, World.setCells, Nat.zero_add, Nat.reduceAdd] at y0 y1 y2 y3 y4
      refine bodyPost_ret (by simp [results, Ybaf.results17, go_sem, y0, y1, y2, y3, y4]; rfl) (by simp [go_sem]) ?_
      refine ⟨by rw [hbd]; rfl, ?_⟩
      exact (Kept.setCells (S := (· = w.heap.size)) w.heap.size (cellOf x) 0 (Kept.ofBelow ((bwV.trans (bU.mono (by omega))).trans (bw2.mono (by omega))) _) (.inr (Nat.le_refl _))).below (fun k h => by omega) (Nat.le_refl _)
end Go.Proofs.YbulkcupaFmt
