/-
  key: the closure, the block size, the pads, setKey by its contract.
-/
import Derived.Test.YbulkcvdaKeyLong
import Derived.RegionTactic
import Derived.ChangeAlike
namespace Go.Proofs.Ybulkcvda
open Go.RowKit

theorem make22 (n : Nat) (hn : n ≤ 8192) (w : World) : (Instr.makeSlice 22 (.int .i64 (n : Int)) (.int .i64 (n : Int))).run Yba.prog w = .ok (.slice (some ⟨w.heap.size, 0, none⟩) n n) (w.alloc (.cells (madeCells #[.int .u8 0] n) 5)) :=
  run_make_row' 22 5 (.int .u8 0) 1 Yba.underlying22 info5 rfl .i64 .i64 n (by omega) (by omega) w

/-- The closure counts its call and hands the hash over. -/
theorem closure_any (cb vb hb : Nat) (w : World) (c0 : w.cell? ⟨cb, 0, none⟩ = some (.int .i64 0)) (fc : w.frozen? ⟨cb, 0, none⟩ = false) (v0 : w.cell? ⟨vb, 0, none⟩ = some (.pointer (some ⟨hb, 0, none⟩))) (n1 : cb ≠ vb) :
    Calls Yba.prog 12 #[.pointer (some ⟨cb, 0, none⟩), .pointer (some ⟨vb, 0, none⟩)] w fun e w' => e = .returned (.iface 35 (.pointer (some ⟨hb, 0, none⟩))) ∧ w' = w.setCell ⟨cb, 0, none⟩ (.int .i64 1) := by
  have v0' : (w.setCell ⟨cb, 0, none⟩ (.int .i64 1)).cell? ⟨vb, 0, none⟩ = some (.pointer (some ⟨hb, 0, none⟩)) := (World.cell?_setCell_other w ⟨cb, 0, none⟩ ⟨vb, 0, none⟩ _ (by simp)).trans v0
  go_enter Yba.func12, Yba.ntmps12
  go_wp2
  go_ret
  exact ⟨rfl, rfl⟩

set_option maxHeartbeats 1000000 in
/-- key, for whatever setKey does ('Facts'). -/
theorem key_any (Facts : World → Nat → Prop) (cb vb hb B : Nat) (t : ByteArray) (w : World) (hB : B ≤ 64) (hB0 : 0 < B) (hcb : cb < w.heap.size) (hvb : vb < w.heap.size) (hhb : hb < w.heap.size) (n1 : cb ≠ vb) (n2 : cb ≠ hb)
    (c0 : w.cell? ⟨cb, 0, none⟩ = some (.int .i64 0)) (fc : w.frozen? ⟨cb, 0, none⟩ = false) (v0 : w.cell? ⟨vb, 0, none⟩ = some (.pointer (some ⟨hb, 0, none⟩))) (h0 : w.cell? ⟨hb, 0, none⟩ = some (.int .i64 B))
    (hset : ∀ W pb, w.heap.size + 1 < pb → pb < W.heap.size → Row W pb 0 (2 * B) (fun _ => 0) → Kept (· = cb) w W → Calls Yba.prog 18 #[.agg #[.iface 35 (.pointer (some ⟨hb, 0, none⟩)), .slice (some ⟨pb, 0, none⟩) B B, .slice (some ⟨pb, B, none⟩) B B], .string t] W
      fun e w' => e = .returned (.tuple #[]) ∧ Kept (fun k => k = pb ∨ k = hb) W w' ∧ ∀ W', Kept (fun k => k < pb ∧ k ≠ hb) w' W' → Facts W' pb) :
    Calls Yba.prog 13 #[.agg #[.func (.func 12) #[] #[.pointer (some ⟨cb, 0, none⟩), .pointer (some ⟨vb, 0, none⟩)], .int .i64 32, .string ByteArray.empty], .string t] w
      fun e w' => ∃ pb, e = .returned (.agg #[.iface 35 (.pointer (some ⟨hb, 0, none⟩)), .slice (some ⟨pb, 0, none⟩) B B, .slice (some ⟨pb, B, none⟩) B B]) ∧ w.heap.size < pb ∧ Kept (fun k => k = cb ∨ k = hb) w w' ∧ w'.cell? ⟨cb, 0, none⟩ = some (.int .i64 1) ∧ ∀ W', Kept (fun k => k < pb ∧ k ≠ hb) w' W' → Facts W' pb := by
  have mB := Yba.mBlockSize
  have hmk : ∀ w, (Instr.makeSlice 22 (.int .i64 (2 * (B : Int))) (.int .i64 (2 * (B : Int)))).run Yba.prog w = .ok (.slice (some ⟨w.heap.size, 0, none⟩) (2 * B) (2 * B)) (w.alloc (.cells (madeCells #[.int .u8 0] (2 * B)) 5)) := fun w => by
    have := make22 (2 * B) (by omega) w
    rwa [show ((2 * B : Nat) : Int) = 2 * (B : Int) by omega] at this
  -- behind the closure
  obtain ⟨w0, hw0⟩ : ∃ w0, w0 = (w.alloc (.cells #[.func (.func 12) #[] #[.pointer (some ⟨cb, 0, none⟩), .pointer (some ⟨vb, 0, none⟩)], .int .i64 32, .string ByteArray.empty] 43)).alloc (.cells #[.nilIface, .slice none 0 0, .slice none 0 0] 45) := ⟨_, rfl⟩
  have k0 : Kept (fun _ => False) w w0 := by rw [hw0]; exact (Kept.alloc (Kept.refl _ w) _).alloc _
  have z0 : w0.heap.size = w.heap.size + 1 + 1 := by rw [hw0]; simp
  have r0 : w0.cell? ⟨w.heap.size + 1, 0, none⟩ = some .nilIface ∧ w0.cell? ⟨w.heap.size + 1, 1, none⟩ = some (.slice none 0 0) ∧ w0.cell? ⟨w.heap.size + 1, 2, none⟩ = some (.slice none 0 0) := by
    rw [hw0]; exact ⟨by go_simp, by go_simp, by go_simp⟩
  obtain ⟨w1, hw1⟩ : ∃ w1, w1 = w0.setCell ⟨cb, 0, none⟩ (.int .i64 1) := ⟨_, rfl⟩
  have k1 : Kept (· = cb) w0 w1 := by rw [hw1]; exact (Kept.refl (· = cb) w0).setCell (a := ⟨cb, 0, none⟩) (.inl rfl) _
  have z1 : w1.heap.size = w.heap.size + 1 + 1 := by rw [hw1]; simpa [World.setCell] using z0
  have d0 := (k0.cell (p := ⟨cb, 0, none⟩) hcb id).trans c0
  have e0 : w1.cell? ⟨cb, 0, none⟩ = some (.int .i64 1) := by rw [hw1]; exact World.cell?_setCell_same w0 ⟨cb, 0, none⟩ _ d0
  have h1 : w1.cell? ⟨hb, 0, none⟩ = some (.int .i64 B) := (k1.cell (p := ⟨hb, 0, none⟩) (by show hb < w0.heap.size; omega) (Ne.symm n2)).trans ((k0.cell (p := ⟨hb, 0, none⟩) hhb id).trans h0)
  have kw1 : Kept (· = cb) w w1 := (k0.mono (fun _ _ h => h.elim)).trans k1
  rw [hw0] at hw1
  go_enter Yba.func13, Yba.ntmps13
  go_wp2_with fail
  rw [← hw0]
  refine (closure_any cb vb hb w0 d0 ((k0.frozen (p := ⟨cb, 0, none⟩) hcb id).trans fc) ((k0.cell (p := ⟨vb, 0, none⟩) hvb id).trans v0) n1).mono ?_
  rintro e w1' ⟨rfl, hw1'⟩
  obtain rfl : w1 = w1' := by rw [hw1, hw1', hw0]
  clear hw1 hw1'
  go_wp2_with fail
  refine (blockSize_any hb B w1 h1).mono ?_
  rintro e w1' ⟨rfl, rfl⟩
  go_wp2_with fail
  go_region
  go_wp2_with fail
  rw [show 2 * B - B = B by omega]
  -- ahead of setKey
  obtain ⟨W, hWd⟩ : ∃ W, W = ((w1.alloc (.cells (madeCells #[.int .u8 0] (2 * B)) 5)).alloc (.cells #[.iface 35 (.pointer (some ⟨hb, 0, none⟩)), .slice (some ⟨w.heap.size + 1 + 1, 0, none⟩) B B, .slice (some ⟨w.heap.size + 1 + 1, B, none⟩) B B] 45)).drew := ⟨_, rfl⟩
  have kW : Kept (fun _ => False) w1 W := by rw [hWd]; exact ((Kept.alloc (Kept.refl _ w1) _).alloc _).drew
  have zW : W.heap.size = w.heap.size + 1 + 1 + 1 + 1 := by rw [hWd]; simp [z1]
  have rW : Row W (w.heap.size + 1 + 1) 0 (2 * B) (fun _ => 0) := by
    have r := (Row.made w1 5 (2 * B)).kept (S := fun _ => False) (w' := W) (by rw [hWd]; exact (Kept.alloc (Kept.refl _ _) _).drew) (by simp) id
    rwa [z1] at r
  have bW : W.cell? ⟨w.heap.size + 1 + 1 + 1, 0, none⟩ = some (.iface 35 (.pointer (some ⟨hb, 0, none⟩))) ∧ W.cell? ⟨w.heap.size + 1 + 1 + 1, 1, none⟩ = some (.slice (some ⟨w.heap.size + 1 + 1, 0, none⟩) B B) ∧ W.cell? ⟨w.heap.size + 1 + 1 + 1, 2, none⟩ = some (.slice (some ⟨w.heap.size + 1 + 1, B, none⟩) B B) := by
    rw [hWd]; exact ⟨by go_simp, by go_simp, by go_simp⟩
  rw [← hWd]
  refine (hset W (w.heap.size + 1 + 1) (by omega) (by omega) rW (kw1.trans (kW.mono (fun _ _ h => h.elim)))).mono ?_
  rintro e w2 ⟨rfl, k2, hfacts⟩
  have out2 : ∀ b o, b < W.heap.size → b ≠ w.heap.size + 1 + 1 → b ≠ hb → w2.cell? ⟨b, o, none⟩ = W.cell? ⟨b, o, none⟩ := fun b o hb1 hb2 hb3 => k2.cell (p := ⟨b, o, none⟩) hb1 (fun h => h.elim hb2 hb3)
  have q0 := (out2 (w.heap.size + 1 + 1 + 1) 0 (by omega) (by omega) (by omega)).trans bW.1
  have q1 := (out2 (w.heap.size + 1 + 1 + 1) 1 (by omega) (by omega) (by omega)).trans bW.2.1
  have q2 := (out2 (w.heap.size + 1 + 1 + 1) 2 (by omega) (by omega) (by omega)).trans bW.2.2
  have rr : ∀ o, w2.cell? ⟨w.heap.size + 1, o, none⟩ = w0.cell? ⟨w.heap.size + 1, o, none⟩ := fun o => (out2 (w.heap.size + 1) o (by omega) (by omega) (by omega)).trans ((kW.cell (p := ⟨w.heap.size + 1, o, none⟩) (by show w.heap.size + 1 < w1.heap.size; omega) id).trans (k1.cell (p := ⟨w.heap.size + 1, o, none⟩) (by show w.heap.size + 1 < w0.heap.size; omega) (by show ¬ w.heap.size + 1 = cb; omega)))
  have s0 := (rr 0).trans r0.1
  have s1 := (rr 1).trans r0.2.1
  have s2 := (rr 2).trans r0.2.2
  have sf : ∀ o, w2.frozen? ⟨w.heap.size + 1, o, none⟩ = false := fun o => by
    rw [k2.frozen (p := ⟨w.heap.size + 1, o, none⟩) (by show w.heap.size + 1 < W.heap.size; omega) (by show ¬ (w.heap.size + 1 = w.heap.size + 1 + 1 ∨ w.heap.size + 1 = hb); omega), kW.frozen (p := ⟨w.heap.size + 1, o, none⟩) (by show w.heap.size + 1 < w1.heap.size; omega) id,
      k1.frozen (p := ⟨w.heap.size + 1, o, none⟩) (by show w.heap.size + 1 < w0.heap.size; omega) (by show ¬ w.heap.size + 1 = cb; omega), hw0]
    exact World.frozen?_alloc_at _ _ _ _ (by simp)
  have c2 : w2.cell? ⟨cb, 0, none⟩ = some (.int .i64 1) := (out2 cb 0 (by omega) (by omega) n2).trans ((kW.cell (p := ⟨cb, 0, none⟩) (by show cb < w1.heap.size; omega) id).trans e0)
  have hk : Kept (fun k => k = cb ∨ k = hb) w w2 := by
    have hkW := kw1.trans (kW.mono (T := (· = cb)) (fun _ _ h => h.elim))
    exact ⟨k2.os.trans hkW.os, k2.tape.trans hkW.tape, k2.output.trans hkW.output, Nat.le_trans hkW.size k2.size, fun k hk1 hk2 => (k2.block k (by omega) (by show ¬ (k = w.heap.size + 1 + 1 ∨ k = hb); omega)).trans (hkW.block k hk1 (fun h => hk2 (.inl h)))⟩
  have HK : Hid (Kept (fun k => k = cb ∨ k = hb) w w2) := hk
  have HF : Hid (∀ W', Kept (fun k => k < w.heap.size + 1 + 1 ∧ k ≠ hb) w2 W' → Facts W' (w.heap.size + 1 + 1)) := hfacts
  clear hset out2 rr hk hfacts k2
  go_wp2_with fail
  refine bodyPost_ret (v := .agg #[.iface 35 (.pointer (some ⟨hb, 0, none⟩)), .slice (some ⟨w.heap.size + 1 + 1, 0, none⟩) B B, .slice (some ⟨w.heap.size + 1 + 1, B, none⟩) B B]) (by simp [results, Yba.results13, go_sem, s0, s1, s2]) rfl ⟨w.heap.size + 1 + 1, rfl, by omega, ?_, ?_, ?_⟩
  · exact ((HK.out.setCell (a := ⟨w.heap.size + 1, 0, none⟩) (.inr (by show w.heap.size ≤ w.heap.size + 1; omega)) _).setCell (a := ⟨w.heap.size + 1, 1, none⟩) (.inr (by show w.heap.size ≤ w.heap.size + 1; omega)) _).setCell (a := ⟨w.heap.size + 1, 2, none⟩) (.inr (by show w.heap.size ≤ w.heap.size + 1; omega)) _
  · rw [World.cell?_setCell_other _ ⟨w.heap.size + 1, 2, none⟩ ⟨cb, 0, none⟩ _ (by simp), World.cell?_setCell_other _ ⟨w.heap.size + 1, 1, none⟩ ⟨cb, 0, none⟩ _ (by simp), World.cell?_setCell_other _ ⟨w.heap.size + 1, 0, none⟩ ⟨cb, 0, none⟩ _ (by simp <;> omega)]
    exact c2
  · intro W' hW'
    refine HF.out W' (Kept.trans ?_ hW')
    exact (((Kept.refl _ w2).setCell (a := ⟨w.heap.size + 1, 0, none⟩) (.inl ⟨by show w.heap.size + 1 < _; omega, by show w.heap.size + 1 ≠ hb; omega⟩) _).setCell (a := ⟨w.heap.size + 1, 1, none⟩) (.inl ⟨by show w.heap.size + 1 < _; omega, by show w.heap.size + 1 ≠ hb; omega⟩) _).setCell (a := ⟨w.heap.size + 1, 2, none⟩) (.inl ⟨by show w.heap.size + 1 < _; omega, by show w.heap.size + 1 ≠ hb; omega⟩) _
end Go.Proofs.Ybulkcvda
