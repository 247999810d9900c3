/-
  setKey for a token longer than a block: the hash is reset, fed the token and summed.
-/
import Derived.Test.YbulkcvdaKey
namespace Go.Proofs.Ybulkcvda
open Go.RowKit

theorem Yba.mReset (v : Value) (w : World) : (Go.method 176 35 v "Reset").run Yba.prog w = .ok (37, v) w := by kernel_rfl
theorem Yba.mWrite (v : Value) (w : World) : (Go.method 176 35 v "Write").run Yba.prog w = .ok (39, v) w := by kernel_rfl
theorem Yba.mSum (v : Value) (w : World) : (Go.method 176 35 v "Sum").run Yba.prog w = .ok (38, v) w := by kernel_rfl
theorem Yba.mBlockSize (v : Value) (w : World) : (Go.method 176 35 v "BlockSize").run Yba.prog w = .ok (36, v) w := by kernel_rfl

theorem sum_more (hb pb db B dn : Nat) (D : Nat → Int) (w : World) (hdn : dn ≤ B) (c1 : w.cell? ⟨hb, 1, none⟩ = some (.slice (some ⟨db, 0, none⟩) dn dn)) (c3 : w.cell? ⟨hb, 3, none⟩ = some (.int .i64 0)) (f3 : w.frozen? ⟨hb, 3, none⟩ = false)
    (hd : ∀ j, j < dn → w.cell? ⟨db, 0 + j, none⟩ = some (.int .u8 (D j))) (hcell : ∀ j, j < 2 * B → w.cell? ⟨pb, 0 + j, none⟩ = some (.int .u8 0)) (hfrz : ∀ j, j < 2 * B → w.frozen? ⟨pb, 0 + j, none⟩ = false) (hne : pb ≠ hb) (hne2 : db ≠ hb) :
    Calls Yba.prog 38 #[.pointer (some ⟨hb, 0, none⟩), .slice (some ⟨pb, 0, none⟩) (0 : Nat) B] w fun e w' => e = .returned (.slice (some ⟨pb, 0, none⟩) dn B) ∧ Kept (fun k => k = pb ∨ k = hb) w w' ∧ Row w' pb 0 (2 * B) (fun j => if j < dn then D j else 0) ∧
      w'.cell? ⟨hb, 3, none⟩ = some (.int .i64 1) ∧ ∀ j, j ≠ 3 → w'.cell? ⟨hb, j, none⟩ = w.cell? ⟨hb, j, none⟩ := by
  refine (sum_any hb pb db B dn D (fun _ => 0) w hdn c1 c3 f3 hd ⟨fun j hj => hcell j (by omega), fun j hj => hfrz j (by omega)⟩ hne hne2).mono ?_
  rintro e w' ⟨rfl, rfl⟩
  have hr : Row (w.setCell ⟨hb, 3, none⟩ (.int .i64 1)) pb 0 (2 * B) (fun _ => 0) := ⟨fun j hj => (World.cell?_setCell_other w ⟨hb, 3, none⟩ ⟨pb, 0 + j, none⟩ _ (by simp)).trans (hcell j hj), fun j hj => by rw [World.frozen?_setCell]; exact hfrz j hj⟩
  have hout : ∀ j, ((w.setCell ⟨hb, 3, none⟩ (.int .i64 1)).setCells pb 0 (bytes dn D)).cell? ⟨hb, j, none⟩ = (w.setCell ⟨hb, 3, none⟩ (.int .i64 1)).cell? ⟨hb, j, none⟩ := fun j =>
    World.cell?_setCells_out pb _ 0 _ ⟨hb, j, none⟩ (fun h => absurd h (Ne.symm hne))
  refine ⟨rfl, Kept.setCells pb _ 0 ((Kept.refl _ w).setCell (a := ⟨hb, 3, none⟩) (.inl (.inr rfl)) _) (.inl (.inl rfl)), (hr.stores 0 dn D (by omega)).congr (fun j _ => by simp), ?_, fun j hj => ?_⟩
  · rw [hout]; exact World.cell?_setCell_same w ⟨hb, 3, none⟩ _ c3
  · rw [hout]; exact World.cell?_setCell_other w ⟨hb, 3, none⟩ ⟨hb, j, none⟩ _ (by simp <;> omega)

set_option maxHeartbeats 4000000 in
theorem setKey_long (hb pb db B dn : Nat) (D : Nat → Int) (t : ByteArray) (w : World) (hB : B ≤ 64) (hB0 : 0 < B) (ht : B < t.size) (ht2 : t.size ≤ 4096) (hdn : dn ≤ B) (hpb : pb < w.heap.size) (hhb : hb < w.heap.size) (hdb : db < w.heap.size) (n1 : pb ≠ hb) (n2 : db ≠ hb) (n3 : db ≠ pb)
    (hrow : Row w pb 0 (2 * B) (fun _ => 0)) (c1 : w.cell? ⟨hb, 1, none⟩ = some (.slice (some ⟨db, 0, none⟩) dn dn)) (c2 : w.cell? ⟨hb, 2, none⟩ = some (.int .i64 0)) (c3 : w.cell? ⟨hb, 3, none⟩ = some (.int .i64 0)) (c4 : w.cell? ⟨hb, 4, none⟩ = some (.slice none 0 0))
    (fz : ∀ j, w.frozen? ⟨hb, j, none⟩ = false) (hd : ∀ j, j < dn → w.cell? ⟨db, 0 + j, none⟩ = some (.int .u8 (D j))) :
    Calls Yba.prog 18 #[.agg #[.iface 35 (.pointer (some ⟨hb, 0, none⟩)), .slice (some ⟨pb, 0, none⟩) B B, .slice (some ⟨pb, B, none⟩) B B], .string t] w fun e w' => e = .returned (.tuple #[]) ∧ Kept (fun k => k = pb ∨ k = hb) w w' ∧ Row w' pb 0 (2 * B) (padTo B (fun j => if j < dn then D j else 0) B) ∧
      w'.cell? ⟨hb, 2, none⟩ = some (.int .i64 1) ∧ w'.cell? ⟨hb, 3, none⟩ = some (.int .i64 1) ∧ ∃ g cap, w.heap.size ≤ g ∧ w'.cell? ⟨hb, 4, none⟩ = some (.slice (some ⟨g, 0, none⟩) t.size cap) ∧ ∀ j, j < t.size → w'.cell? ⟨g, 0 + j, none⟩ = some (.int .u8 (byteAt t j)) := by
  have hne : ∀ j k : Nat, (⟨hb, j, none⟩ : Addr) ≠ ⟨hb, k, none⟩ ↔ j ≠ k := fun j k => by simp
  have mR := Yba.mReset
  have mW := Yba.mWrite
  have mS := Yba.mSum
  -- the world ahead of Reset
  obtain ⟨w0, hw0⟩ : ∃ w0, w0 = w.alloc (.cells #[.iface 35 (.pointer (some ⟨hb, 0, none⟩)), .slice (some ⟨pb, 0, none⟩) B B, .slice (some ⟨pb, B, none⟩) B B] 45) := ⟨_, rfl⟩
  have k0 : Kept (fun _ => False) w w0 := by rw [hw0]; exact Kept.alloc (Kept.refl _ w) _
  have z0 : w0.heap.size = w.heap.size + 1 := by rw [hw0]; simp
  have box0 : w0.cell? ⟨w.heap.size, 0, none⟩ = some (.iface 35 (.pointer (some ⟨hb, 0, none⟩))) ∧ w0.cell? ⟨w.heap.size, 1, none⟩ = some (.slice (some ⟨pb, 0, none⟩) B B) ∧ w0.cell? ⟨w.heap.size, 2, none⟩ = some (.slice (some ⟨pb, B, none⟩) B B) := by
    rw [hw0]
    exact ⟨by go_simp, by go_simp, by go_simp⟩
  have d1 := (k0.cell (p := ⟨hb, 1, none⟩) hhb id).trans c1
  have d2 := (k0.cell (p := ⟨hb, 2, none⟩) hhb id).trans c2
  have d3 := (k0.cell (p := ⟨hb, 3, none⟩) hhb id).trans c3
  have d4 := (k0.cell (p := ⟨hb, 4, none⟩) hhb id).trans c4
  have fz0 : ∀ j, w0.frozen? ⟨hb, j, none⟩ = false := fun j => (k0.frozen (p := ⟨hb, j, none⟩) hhb id).trans (fz j)
  -- behind Reset
  obtain ⟨w1, hw1⟩ : ∃ w1, w1 = (w0.setCell ⟨hb, 2, none⟩ (.int .i64 1)).setCell ⟨hb, 4, none⟩ (.slice none 0 0) := ⟨_, rfl⟩
  have k1 : Kept (· = hb) w0 w1 := by rw [hw1]; exact ((Kept.refl (· = hb) w0).setCell (a := ⟨hb, 2, none⟩) (.inl rfl) _).setCell (a := ⟨hb, 4, none⟩) (.inl rfl) _
  have e2 : w1.cell? ⟨hb, 2, none⟩ = some (.int .i64 1) := by
    rw [hw1]; exact (World.cell?_setCell_other _ ⟨hb, 4, none⟩ ⟨hb, 2, none⟩ _ (by simp)).trans (World.cell?_setCell_same w0 ⟨hb, 2, none⟩ _ d2)
  have e4 : w1.cell? ⟨hb, 4, none⟩ = some (.slice none 0 0) := by
    rw [hw1]; exact World.cell?_setCell_same _ ⟨hb, 4, none⟩ _ ((World.cell?_setCell_other w0 ⟨hb, 2, none⟩ ⟨hb, 4, none⟩ _ (by simp)).trans d4)
  have e1 : w1.cell? ⟨hb, 1, none⟩ = some (.slice (some ⟨db, 0, none⟩) dn dn) := by
    rw [hw1]; exact (World.cell?_setCell_other _ ⟨hb, 4, none⟩ ⟨hb, 1, none⟩ _ (by simp)).trans ((World.cell?_setCell_other w0 ⟨hb, 2, none⟩ ⟨hb, 1, none⟩ _ (by simp)).trans d1)
  have e3 : w1.cell? ⟨hb, 3, none⟩ = some (.int .i64 0) := by
    rw [hw1]; exact (World.cell?_setCell_other _ ⟨hb, 4, none⟩ ⟨hb, 3, none⟩ _ (by simp)).trans ((World.cell?_setCell_other w0 ⟨hb, 2, none⟩ ⟨hb, 3, none⟩ _ (by simp)).trans d3)
  have fz1 : ∀ j, w1.frozen? ⟨hb, j, none⟩ = false := fun j => by rw [hw1]; simp [fz0]
  -- behind the conversion
  obtain ⟨cap2, w2, hcv, k2, z2, x2⟩ : ∃ cap2 w2, (convert 9 22 (.string t)).run Yba.prog w1 = .ok (.slice (some ⟨w1.heap.size, 0, none⟩) t.size cap2) w2 ∧ Kept (fun _ => False) w1 w2 ∧ w1.heap.size < w2.heap.size ∧ ∀ j, j < t.size → w2.cell? ⟨w1.heap.size, 0 + j, none⟩ = some (.int .u8 (byteAt t j)) :=
    ⟨_, _, Lib.run_convert_string_bytes w1 9 22 5 t Yba.underlying9 Yba.underlying22 Yba.underlying5, Kept.bytes _ _ _ _, by rw [Lib.bytesWorld_size]; omega, fun j hj => by rw [Nat.zero_add]; exact Lib.bytesWorld_cell w1 5 t j hj⟩
  have hh1 : hb < w1.heap.size := by have := k1.size; omega
  have g4 := (k2.cell (p := ⟨hb, 4, none⟩) hh1 id).trans e4
  have gf4 := (k2.frozen (p := ⟨hb, 4, none⟩) hh1 id).trans (fz1 4)
  have hz1 : w.heap.size < w1.heap.size := by have := k1.size; omega
  have box1 : ∀ j, w1.cell? ⟨w.heap.size, j, none⟩ = w0.cell? ⟨w.heap.size, j, none⟩ := fun j => k1.cell (p := ⟨w.heap.size, j, none⟩) (by rw [z0]; show w.heap.size < w.heap.size + 1; omega) (by show ¬ w.heap.size = hb; omega)
  have box2 : ∀ j, w2.cell? ⟨w.heap.size, j, none⟩ = w0.cell? ⟨w.heap.size, j, none⟩ := fun j => (k2.cell (p := ⟨w.heap.size, j, none⟩) hz1 id).trans (box1 j)
  have bx1 := (box1 0).trans box0.1
  rw [hw0] at hw1
  subst hw0
  go_enter Yba.func18, Yba.ntmps18
  go_wp2_with fail
  refine (reset_any hb _ _ d2 d4 (fz0 2) (fz0 4)).mono ?_
  rintro e w1' ⟨rfl, hw1'⟩
  obtain rfl : w1 = w1' := hw1.trans hw1'.symm
  clear hw1 hw1'
  go_wp2_with fail
  refine (write_any hb w1.heap.size t.size cap2 (byteAt t) w2 (by omega) ht2 (by omega) g4 gf4 x2).mono ?_
  rintro e w3 ⟨rfl, cap3, w3a, z3a, b3a, x3a, hw3⟩
  -- behind Write
  have k3a : Kept (fun _ => False) w2 w3a := Kept.ofBelow b3a _
  have k3 : Kept (· = hb) w2 w3 := by rw [hw3]; exact (Kept.ofBelow b3a (· = hb)).setCell (a := ⟨hb, 4, none⟩) (.inl rfl) _
  have hh2 : hb < w2.heap.size := by omega
  have i4 : w3.cell? ⟨hb, 4, none⟩ = some (.slice (some ⟨w2.heap.size, 0, none⟩) t.size cap3) := by
    rw [hw3]; exact World.cell?_setCell_same w3a ⟨hb, 4, none⟩ _ ((k3a.cell (p := ⟨hb, 4, none⟩) hh2 id).trans g4)
  have iother : ∀ j, j ≠ 4 → w3.cell? ⟨hb, j, none⟩ = w1.cell? ⟨hb, j, none⟩ := fun j hj => by
    rw [hw3]; exact (World.cell?_setCell_other w3a ⟨hb, 4, none⟩ ⟨hb, j, none⟩ _ (by simp <;> omega)).trans ((k3a.cell (p := ⟨hb, j, none⟩) hh2 id).trans (k2.cell (p := ⟨hb, j, none⟩) hh1 id))
  have fz3 : ∀ j, w3.frozen? ⟨hb, j, none⟩ = false := fun j => by
    rw [hw3, World.frozen?_setCell]; exact (k3a.frozen (p := ⟨hb, j, none⟩) hh2 id).trans ((k2.frozen (p := ⟨hb, j, none⟩) hh1 id).trans (fz1 j))
  have x3 : ∀ j, j < t.size → w3.cell? ⟨w2.heap.size, 0 + j, none⟩ = some (.int .u8 (byteAt t j)) := fun j hj => by
    rw [hw3]; exact (World.cell?_setCell_other w3a ⟨hb, 4, none⟩ ⟨w2.heap.size, 0 + j, none⟩ _ (by simp <;> omega)).trans (x3a j hj)
  have kall : Kept (· = hb) w w3 := ((((k0.mono (fun _ _ h => h.elim)).trans k1).trans (k2.mono (fun _ _ h => h.elim))).trans k3)
  have z3 : w2.heap.size < w3.heap.size := by rw [hw3]; simpa [World.setCell] using z3a
  have r3 : Row w3 pb 0 (2 * B) (fun _ => 0) := hrow.kept kall hpb n1
  have hd3 : ∀ j, j < dn → w3.cell? ⟨db, 0 + j, none⟩ = some (.int .u8 (D j)) := fun j hj => (kall.cell (p := ⟨db, 0 + j, none⟩) hdb n2).trans (hd j hj)
  have box3 : ∀ j, w3.cell? ⟨w.heap.size, j, none⟩ = _ := fun j => (k3.cell (p := ⟨w.heap.size, j, none⟩) (by show w.heap.size < w2.heap.size; omega) (by show ¬ w.heap.size = hb; omega)).trans (box2 j)
  have bx30 := (box3 0).trans box0.1
  have bx31 := (box3 1).trans box0.2.1
  have bx32 := (box3 2).trans box0.2.2
  have i1 := (iother 1 (by omega)).trans e1
  have i2 := (iother 2 (by omega)).trans e2
  have i3 := (iother 3 (by omega)).trans e3
  have r3B : Row w3 pb 0 B (fun _ => 0) := ⟨fun j hj => r3.cell j (by omega), fun j hj => r3.frz j (by omega)⟩
  clear iother hw3 k3 k3a b3a x3a z3a box3 box2 box1 k2 k1 k0 hcv x2 g4 gf4 e1 e2 e3 e4 fz1 fz0 d1 d2 d3 d4 c1 c2 c3 c4 box0 hrow hd bx1 mR mW
  have kH : ∀ W, Kept (fun k => k = pb ∨ k = hb) w3 W → Kept (fun k => k = pb ∨ k = hb) w W := fun W hW => (kall.mono (fun _ _ h => .inr h)).trans hW
  have KH : Hid (∀ W, Kept (fun k => k = pb ∨ k = hb) w3 W → Kept (fun k => k = pb ∨ k = hb) w W) := kH
  clear kH kall
  go_wp2_with fail
  go_region_with (go_at_call 38; refine (sum_more hb pb db B dn D _ hdn ?_ ?_ ?_ ?_ ?_ ?_ n1 n2).mono ?_; exact i1; exact i3; exact fz3 3; exact hd3; exact r3.cell; exact r3.frz; rintro e w4 ⟨rfl, k4', r4, j3, jo⟩)
  all_goals
    have k4 : Kept (fun k => k = pb ∨ k = hb) w3 w4 := ⟨k4'.os, k4'.tape, k4'.output, k4'.size, k4'.block⟩
    have j2 : w4.cell? ⟨hb, 2, none⟩ = some (.int .i64 1) := (jo 2 (by omega)).trans i2
    have j4 : w4.cell? ⟨hb, 4, none⟩ = some (.slice (some ⟨w2.heap.size, 0, none⟩) t.size cap3) := (jo 4 (by omega)).trans i4
    have x4 : ∀ j, j < t.size → w4.cell? ⟨w2.heap.size, 0 + j, none⟩ = some (.int .u8 (byteAt t j)) := fun j hj => (k4.cell (p := ⟨w2.heap.size, 0 + j, none⟩) z3 (by show ¬ (w2.heap.size = pb ∨ w2.heap.size = hb); omega)).trans (x3 j hj)
    have bx : ∀ W, Kept (· = pb) w4 W → W.cell? ⟨w.heap.size, 1, none⟩ = some (.slice (some ⟨pb, 0, none⟩) B B) ∧ W.cell? ⟨w.heap.size, 2, none⟩ = some (.slice (some ⟨pb, B, none⟩) B B) := fun W hW => by
      have hz4 := k4.size
      have q1 := k4.cell (p := ⟨w.heap.size, 1, none⟩) (by show w.heap.size < w3.heap.size; omega) (by show ¬ (w.heap.size = pb ∨ w.heap.size = hb); omega)
      have q2 := k4.cell (p := ⟨w.heap.size, 2, none⟩) (by show w.heap.size < w3.heap.size; omega) (by show ¬ (w.heap.size = pb ∨ w.heap.size = hb); omega)
      exact ⟨(hW.cell (p := ⟨w.heap.size, 1, none⟩) (by show w.heap.size < w4.heap.size; omega) (by show ¬ w.heap.size = pb; omega)).trans (q1.trans bx31), (hW.cell (p := ⟨w.heap.size, 2, none⟩) (by show w.heap.size < w4.heap.size; omega) (by show ¬ w.heap.size = pb; omega)).trans (q2.trans bx32)⟩
    have Kfin : Hid (∀ W, Kept (· = pb) w4 W → Kept (fun k => k = pb ∨ k = hb) w W) := fun W hW => KH.out W (k4.trans (hW.mono (fun _ _ h => .inl h)))
    have Hjs : Hid (∀ W, Kept (· = pb) w4 W → W.cell? ⟨hb, 2, none⟩ = some (.int .i64 1) ∧ W.cell? ⟨hb, 3, none⟩ = some (.int .i64 1) ∧ W.cell? ⟨hb, 4, none⟩ = some (.slice (some ⟨w2.heap.size, 0, none⟩) t.size cap3) ∧ ∀ j, j < t.size → W.cell? ⟨w2.heap.size, 0 + j, none⟩ = some (.int .u8 (byteAt t j))) := fun W hW => by
      have hz4 := k4.size
      have q : ∀ j, W.cell? ⟨hb, j, none⟩ = w4.cell? ⟨hb, j, none⟩ := fun j => hW.cell (p := ⟨hb, j, none⟩) (by show hb < w4.heap.size; omega) (by show ¬ hb = pb; omega)
      exact ⟨(q 2).trans j2, (q 3).trans j3, (q 4).trans j4, fun j hj => (hW.cell (p := ⟨w2.heap.size, 0 + j, none⟩) (by show w2.heap.size < w4.heap.size; omega) (by show ¬ w2.heap.size = pb; omega)).trans (x4 j hj)⟩
    have bx4 := bx w4 (Kept.refl _ _)
    obtain ⟨w5, hcl, k5, r5⟩ := clear_rest dn hdn r4
    have bx5 := bx w5 k5
    obtain ⟨w6, hco, k6', r6⟩ := copy_opad r5
    have k6 := k5.trans k6'
    have bx6 := bx w6 k6
    have r6' : Row w6 pb 0 (2 * B) (padTo B (fun j => if j < dn then D j else 0) 0) := r6.congr (fun j hj => by
      unfold padTo
      simp only [Nat.not_lt_zero, if_false]
      by_cases hj1 : j < B
      · simp only [if_pos hj1]
        by_cases hj2 : j < dn
        · rw [if_neg (by omega)]
        · rw [if_pos (by omega), if_neg hj2]
      · simp only [if_neg hj1]
        by_cases hj2 : j - B < dn
        · rw [if_neg (by omega)]
        · rw [if_pos (by omega), if_neg hj2])
    clear r6 r5 r4 k5 k6' jo j2 j3 j4 x4 k4 k4' i1 i2 i3 i4 hd3 r3 r3B fz3 x3
    generalize hK : (fun j => if j < dn then D j else 0) = K at r6'
    have HK : Hid ((fun j => if j < dn then D j else 0) = K) := hK
    clear hK
    by_cases hlt : dn < B
    · have hcl' := hcl 0
      rw [if_pos hlt] at hcl'
      clear hcl
      go_wp2_with fail
      go_loopw [46] (fun i wr => ∃ n : Nat, n ≤ B ∧ i = .int .i64 n ∧ Row wr pb 0 (2 * B) (padTo B K n) ∧ Kept (· = pb) w6 wr) (fun i _ => B - (intOf i).toNat)
      case atStart => exact ⟨0, Nat.zero_le _, rfl, r6', Kept.refl _ _⟩
      case round =>
        obtain ⟨n, hn, rfl, hr, hk⟩ := hrel
        by_cases hnB : n < B
        · have e0 := hr.cell n (by omega)
          have e1 := hr.cell (B + n) (by omega)
          have g0 := hr.frz n (by omega)
          have g1 := hr.frz (B + n) (by omega)
          rw [Nat.zero_add, padTo_lo hnB] at e0
          rw [Nat.zero_add, padTo_hi] at e1
          rw [Nat.zero_add] at g0 g1
          have bb := bx wr (k6.trans hk)
          have bb2 := bx (wr.setCell ⟨pb, n, none⟩ (.int .u8 (bits .xor .u8 (K n) 54))) ((k6.trans hk).setCell (a := ⟨pb, n, none⟩) (.inl rfl) _)
          have e2 : (wr.setCell ⟨pb, n, none⟩ (.int .u8 (bits .xor .u8 (K n) 54))).cell? ⟨pb, B + n, none⟩ = some (.int .u8 (K n)) := (World.cell?_setCell_other wr ⟨pb, n, none⟩ ⟨pb, B + n, none⟩ _ (by simp <;> omega)).trans e1
          have hst := padTo_step hr hnB
          clear bx r6'
          go_wp2
          go_roundw
          case rel => exact ⟨n + 1, by omega, by go_num, hst, (hk.setCell (a := ⟨pb, n, none⟩) (.inl rfl) _).setCell (a := ⟨pb, B + n, none⟩) (.inl rfl) _⟩
          case measure => simp [intOf]; omega
        · obtain rfl : n = B := by omega
          go_wp2
          go_end0
          have hjs := Hjs.out _ (k6.trans hk)
          exact ⟨rfl, Kfin.out _ (k6.trans hk), by rw [HK.out]; exact hr, hjs.1, hjs.2.1, _, _, by omega, hjs.2.2.1, hjs.2.2.2⟩
    · have hcl' := hcl 0
      rw [if_neg hlt] at hcl'
      clear hcl
      have hfull : dn = B := by omega
      go_wp2_with fail
      go_loopw [46] (fun i wr => ∃ n : Nat, n ≤ B ∧ i = .int .i64 n ∧ Row wr pb 0 (2 * B) (padTo B K n) ∧ Kept (· = pb) w6 wr) (fun i _ => B - (intOf i).toNat)
      case atStart => exact ⟨0, Nat.zero_le _, rfl, r6', Kept.refl _ _⟩
      case round =>
        obtain ⟨n, hn, rfl, hr, hk⟩ := hrel
        by_cases hnB : n < B
        · have e0 := hr.cell n (by omega)
          have e1 := hr.cell (B + n) (by omega)
          have g0 := hr.frz n (by omega)
          have g1 := hr.frz (B + n) (by omega)
          rw [Nat.zero_add, padTo_lo hnB] at e0
          rw [Nat.zero_add, padTo_hi] at e1
          rw [Nat.zero_add] at g0 g1
          have bb := bx wr (k6.trans hk)
          have bb2 := bx (wr.setCell ⟨pb, n, none⟩ (.int .u8 (bits .xor .u8 (K n) 54))) ((k6.trans hk).setCell (a := ⟨pb, n, none⟩) (.inl rfl) _)
          have e2 : (wr.setCell ⟨pb, n, none⟩ (.int .u8 (bits .xor .u8 (K n) 54))).cell? ⟨pb, B + n, none⟩ = some (.int .u8 (K n)) := (World.cell?_setCell_other wr ⟨pb, n, none⟩ ⟨pb, B + n, none⟩ _ (by simp <;> omega)).trans e1
          have hst := padTo_step hr hnB
          clear bx r6'
          go_wp2
          go_roundw
          case rel => exact ⟨n + 1, by omega, by go_num, hst, (hk.setCell (a := ⟨pb, n, none⟩) (.inl rfl) _).setCell (a := ⟨pb, B + n, none⟩) (.inl rfl) _⟩
          case measure => simp [intOf]; omega
        · obtain rfl : n = B := by omega
          go_wp2
          go_end0
          have hjs := Hjs.out _ (k6.trans hk)
          exact ⟨rfl, Kfin.out _ (k6.trans hk), by rw [HK.out]; exact hr, hjs.1, hjs.2.1, _, _, by omega, hjs.2.2.1, hjs.2.2.2⟩
end Go.Proofs.Ybulkcvda
