/-
  The stand-in hash's methods by their walks, and setKey for a token no longer than a block.
-/
import Derived.Test.YbulkcvdaRows
import Derived.Test.YbulkcvdaBytes
import Derived.WalkKit
import Derived.WalkSpells
import Derived.WalkLawsBesides
import Derived.ArgAppend
import Derived.Lib.AppendZeros
import Derived.Deep.OwnRows
import Derived.Lib.SliceRun
import Derived.Lib.LazyBuf
import Derived.Laws.BytesArg
import Derived.Deep.QuietTactic
import Derived.BigQuiet
import Derived.Deep.RegionWith
import Derived.Deep.LoopGhost
namespace Go.Proofs.Ybulkcvda
open Go.RowKit

theorem info5 : (Yba.prog.info? 5).map (fun i => (i.zero, i.size, i.bytes)) = some (some (.int .u8 0), 1, 1) := by kernel_rfl
theorem size5 : (Yba.prog.info? 5).map (·.size) = some 1 := by kernel_rfl

theorem blockSize_any (hb : Nat) (B : Int) (w : World) (c0 : w.cell? ⟨hb, 0, none⟩ = some (.int .i64 B)) :
    Calls Yba.prog 36 #[.pointer (some ⟨hb, 0, none⟩)] w fun e w' => e = .returned (.int .i64 B) ∧ w = w' := by
  go_enter Yba.func36, Yba.ntmps36
  go_wp2
  go_ret
  exact ⟨rfl, rfl⟩

theorem reset_any (hb : Nat) (x : Value) (w : World) (c2 : w.cell? ⟨hb, 2, none⟩ = some (.int .i64 0)) (c4 : w.cell? ⟨hb, 4, none⟩ = some x) (f2 : w.frozen? ⟨hb, 2, none⟩ = false) (f4 : w.frozen? ⟨hb, 4, none⟩ = false) :
    Calls Yba.prog 37 #[.pointer (some ⟨hb, 0, none⟩)] w fun e w' => e = .returned (.tuple #[]) ∧ w' = (w.setCell ⟨hb, 2, none⟩ (.int .i64 1)).setCell ⟨hb, 4, none⟩ (.slice none 0 0) := by
  go_enter Yba.func37, Yba.ntmps37
  go_wp2
  go_end0
  exact ⟨rfl, rfl⟩

/-- 'append(nil, p...)': a new row of p's bytes. -/
theorem append_nil (ty g n c : Nat) (X : Nat → Int) (w : World) (hn : 0 < n) (hn2 : n ≤ 4096) (hp : ∀ j, j < n → w.cell? ⟨g, 0 + j, none⟩ = some (.int .u8 (X j))) :
    ∃ cap w1, (Builtin.append_ #[22, 22] ty #[.slice none 0 0, .slice (some ⟨g, 0, none⟩) n c]).run Yba.prog w = .ok (.slice (some ⟨w.heap.size, 0, none⟩) n cap) w1 ∧ w.heap.size < w1.heap.size ∧ Below w.heap.size w w1 ∧
      (∀ j, j < n → w1.cell? ⟨w.heap.size, 0 + j, none⟩ = some (.int .u8 (X j))) := by
  obtain ⟨i, hi, hz⟩ := Option.map_eq_some_iff.1 info5
  simp only [Prod.mk.injEq] at hz
  obtain ⟨hz, hs, hby⟩ := hz
  refine ⟨_, _, run_append_nil (P := Yba.prog) w 22 ty 5 i (.int .u8 0) Yba.underlying22 hi hz ⟨g, 0, none⟩ n c (bytes n X) (by rw [bytes_length, hs, Nat.mul_one]) (fun j v hv => by
    obtain ⟨hj, rfl⟩ := bytes_get hv
    rw [WideShapes.add_plain]
    exact hp j hj) hn (by omega) (by rw [hby]; omega), by simp, ((Below.refl _ w).drew).alloc (Nat.le_refl _) _, fun j hj => ?_⟩
  have hg := (MapKept.heap_alloc w.drew (.cells ((bytes n X).toArray ++ Builtin.zeroCells (Value.int .u8 0).cells (grownCap w n 0 5 - n)) 5)).1
  have hg' : (w.drew.alloc (.cells ((bytes n X).toArray ++ Builtin.zeroCells (Value.int .u8 0).cells (grownCap w n 0 5 - n)) 5)).heap[w.heap.size]? = some (.cells ((bytes n X).toArray ++ Builtin.zeroCells (Value.int .u8 0).cells (grownCap w n 0 5 - n)) 5 (0, 0)) := hg
  simp only [World.cell?, hg']
  simp only [Nat.zero_add, bytes]
  rw [Array.getElem?_append_left (by simpa using hj)]
  simp [hj]

theorem write_any (hb g n c : Nat) (X : Nat → Int) (w : World) (hn : 0 < n) (hn2 : n ≤ 4096) (hbl : hb < w.heap.size) (c4 : w.cell? ⟨hb, 4, none⟩ = some (.slice none 0 0)) (f4 : w.frozen? ⟨hb, 4, none⟩ = false)
    (hp : ∀ j, j < n → w.cell? ⟨g, 0 + j, none⟩ = some (.int .u8 (X j))) :
    Calls Yba.prog 39 #[.pointer (some ⟨hb, 0, none⟩), .slice (some ⟨g, 0, none⟩) n c] w fun e w' => e = .returned (.tuple #[.int .i64 n, .nilIface]) ∧ ∃ cap w1, w.heap.size < w1.heap.size ∧ Below w.heap.size w w1 ∧
      (∀ j, j < n → w1.cell? ⟨w.heap.size, 0 + j, none⟩ = some (.int .u8 (X j))) ∧ w' = w1.setCell ⟨hb, 4, none⟩ (.slice (some ⟨w.heap.size, 0, none⟩) n cap) := by
  obtain ⟨cap, w1, hap, hz1, hb1, hx1⟩ := append_nil 22 g n c X w hn hn2 hp
  have c4' : w1.cell? ⟨hb, 4, none⟩ = some (.slice none 0 0) := (hb1.cell (p := ⟨hb, 4, none⟩) hbl).trans c4
  have f4' : w1.frozen? ⟨hb, 4, none⟩ = false := (hb1.frozen (p := ⟨hb, 4, none⟩) hbl).trans f4
  go_enter Yba.func39, Yba.ntmps39
  go_wp2_with (at_builtin; go_must (refine Lib.wpList_append_run _ rfl _ _ 22 22 rfl _ _ rfl rfl _ _ hap ?_))
  go_ret2
  exact ⟨rfl, cap, w1, hz1, hb1, hx1, rfl⟩

/-- Sum onto ipad[:0]: there is room. -/
theorem sum_any (hb pb db B dn : Nat) (D R : Nat → Int) (w : World) (hdn : dn ≤ B) (c1 : w.cell? ⟨hb, 1, none⟩ = some (.slice (some ⟨db, 0, none⟩) dn dn)) (c3 : w.cell? ⟨hb, 3, none⟩ = some (.int .i64 0)) (f3 : w.frozen? ⟨hb, 3, none⟩ = false)
    (hd : ∀ j, j < dn → w.cell? ⟨db, 0 + j, none⟩ = some (.int .u8 (D j))) (hrow : Row w pb 0 B R) (hne : pb ≠ hb) (hne2 : db ≠ hb) :
    Calls Yba.prog 38 #[.pointer (some ⟨hb, 0, none⟩), .slice (some ⟨pb, 0, none⟩) (0 : Nat) B] w fun e w' => e = .returned (.slice (some ⟨pb, 0, none⟩) dn B) ∧ w' = (w.setCell ⟨hb, 3, none⟩ (.int .i64 1)).setCells pb 0 (bytes dn D) := by
  obtain ⟨i, hi, hz⟩ := Option.map_eq_some_iff.1 info5
  simp only [Prod.mk.injEq] at hz
  obtain ⟨hz, hs, hby⟩ := hz
  have h1 : ∀ j, j < B → (w.setCell ⟨hb, 3, none⟩ (.int .i64 1)).cell? ⟨pb, j, none⟩ = some (.int .u8 (R j)) := fun j hj => by
    have := hrow.cell j hj
    rw [Nat.zero_add] at this
    rw [World.cell?_setCell_other w ⟨hb, 3, none⟩ ⟨pb, j, none⟩ _ (by simp)]
    exact this
  have hap := run_append_room_cells (P := Yba.prog) (w.setCell ⟨hb, 3, none⟩ (.int .i64 1)) 22 22 5 i Yba.underlying22 hi pb 0 0 B ⟨db, 0, none⟩ dn dn (bytes dn D) (by rw [bytes_length, hs, Nat.mul_one]) (fun j v hv => by
    obtain ⟨hj, rfl⟩ := bytes_get hv
    rw [WideShapes.add_plain, World.cell?_setCell_other w ⟨hb, 3, none⟩ ⟨db, 0 + j, none⟩ _ (by simp)]
    exact hd j hj) (bytes_one dn D) (by omega) (fun j hj => by
      rw [bytes_length] at hj
      simp only [Nat.zero_mul, Nat.zero_add]
      rw [h1 j (by omega)]
      rfl) (fun j hj => by
      rw [bytes_length] at hj
      simp only [Nat.zero_mul, Nat.zero_add, World.frozen?_setCell]
      have := hrow.frz j (by omega)
      rwa [Nat.zero_add] at this)
  simp only [Nat.zero_mul, Nat.zero_add] at hap
  have c1' : (w.setCell ⟨hb, 3, none⟩ (.int .i64 1)).cell? ⟨hb, 1, none⟩ = some (.slice (some ⟨db, 0, none⟩) dn dn) := (World.cell?_setCell_other w ⟨hb, 3, none⟩ ⟨hb, 1, none⟩ _ (by simp)).trans c1
  go_enter Yba.func38, Yba.ntmps38
  go_wp2_with (at_builtin; go_must (refine Lib.wpList_append_run _ rfl _ _ 22 22 rfl _ _ rfl rfl _ _ hap ?_))
  go_ret
  exact ⟨rfl, rfl⟩

/-- Byte j of a string. -/
def byteAt (t : ByteArray) (j : Nat) : Int := ((t.data.toList.getD j 0).toNat : Int)
theorem bytes_string (t : ByteArray) : (t.data.toList.map fun x => Value.int .u8 (x.toNat : Int)) = bytes t.size (byteAt t) := by
  apply List.ext_getElem?
  intro i
  by_cases hi : i < t.data.toList.length
  · have : i < t.size := by rw [Lib.size_eq]; exact hi
    simp [bytes, byteAt, this]
  · have : ¬ i < t.size := by rw [Lib.size_eq]; exact hi
    simp [bytes, this]

/-- The two pads behind n rounds. -/
def padTo (B : Nat) (K : Nat → Int) (n j : Nat) : Int :=
  if j < B then (if j < n then bits .xor .u8 (K j) 54 else K j) else (if j - B < n then bits .xor .u8 (K (j - B)) 92 else K (j - B))
theorem padTo_lo {B : Nat} {K : Nat → Int} {n : Nat} (h : n < B) : padTo B K n n = K n := by simp [padTo, h]
theorem padTo_hi {B : Nat} {K : Nat → Int} {n : Nat} : padTo B K n (B + n) = K n := by
  have h : ¬ B + n < B := by omega
  simp [padTo, h]

theorem padTo_step {w : World} {pb B n : Nat} {K : Nat → Int} (h : Row w pb 0 (2 * B) (padTo B K n)) (hn : n < B) :
    Row ((w.setCell ⟨pb, n, none⟩ (.int .u8 (bits .xor .u8 (K n) 54))).setCell ⟨pb, B + n, none⟩ (.int .u8 (bits .xor .u8 (K n) 92))) pb 0 (2 * B) (padTo B K (n + 1)) := by
  refine ⟨fun j hj => ?_, fun j hj => by simpa using h.frz j hj⟩
  have hc := h.cell
  simp only [Nat.zero_add] at hc ⊢
  by_cases h1 : j = B + n
  · subst h1
    rw [World.cell?_setCell_same _ ⟨pb, B + n, none⟩ _ ((World.cell?_setCell_other w ⟨pb, n, none⟩ ⟨pb, B + n, none⟩ _ (by simp <;> omega)).trans (hc (B + n) (by omega)))]
    have h3 : ¬ B + n < B := by omega
    simp [padTo, h3]
  · rw [World.cell?_setCell_other _ ⟨pb, B + n, none⟩ ⟨pb, j, none⟩ _ (by simp <;> omega)]
    by_cases h2 : j = n
    · subst h2
      rw [World.cell?_setCell_same w ⟨pb, j, none⟩ _ (hc j hj)]
      simp [padTo, hn]
    · rw [World.cell?_setCell_other w ⟨pb, n, none⟩ ⟨pb, j, none⟩ _ (by simp <;> omega), hc j hj]
      unfold padTo
      by_cases h3 : j < B
      · have e3 : (j < n + 1) ↔ (j < n) := by omega
        simp [h3, e3]
      · have e3 : (j - B < n + 1) ↔ (j - B < n) := by omega
        simp [h3, e3]

theorem zero5 (w : World) : (zeroValue 5).run Yba.prog w = .ok (.int .u8 0) w := by kernel_rfl
theorem sizeOf5 (w : World) : (Go.sizeOf 5).run Yba.prog w = .ok 1 w := by kernel_rfl

/-- 'clear(k.ipad[n:])'. -/
theorem clear_rest {W : World} {pb B : Nat} {R : Nat → Int} (n : Nat) (hn : n ≤ B) (h : Row W pb 0 (2 * B) R) :
    ∃ W2, (∀ ty, (Builtin.clear_ #[22] ty #[if n < B then .slice (some ⟨pb, n, none⟩) (B - n) (B - n) else .slice (some ⟨pb, 0, none⟩) 0 0]).run Yba.prog W = .ok (.tuple #[]) W2) ∧
      Kept (· = pb) W W2 ∧ Row W2 pb 0 (2 * B) (fun j => if n ≤ j ∧ j < B then 0 else R j) := by
  by_cases hlt : n < B
  · have hb : bytes (B - n) (fun _ => 0) = List.replicate (B - n) (Value.int .u8 0) := by
      apply List.ext_getElem?
      intro i
      by_cases hi : i < B - n <;> simp [bytes, hi]
    refine ⟨W.setCells pb n (List.replicate (B - n) (.int .u8 0)), fun ty => ?_, Kept.setCells pb _ n (Kept.refl _ _) (.inl rfl), ?_⟩
    · rw [if_pos hlt]
      exact Lib.run_clear_slice W 22 5 ty (.int .u8 0) Yba.underlying22 zero5 rfl rfl pb n (B - n) (B - n) (by omega) (fun j hj => by
        have := h.cell (n + j) (by omega)
        rw [Nat.zero_add] at this
        rw [this]
        rfl) (fun j hj => by have := h.frz (n + j) (by omega); rwa [Nat.zero_add] at this)
    · rw [← hb]
      have := h.stores n (B - n) (fun _ => 0) (by omega)
      rw [Nat.zero_add] at this
      exact this.congr (fun j _ => by rw [show n + (B - n) = B by omega])
  · refine ⟨W, fun ty => ?_, Kept.refl _ _, h.congr (fun j _ => by rw [if_neg (by omega)])⟩
    rw [if_neg hlt]
    simp [Builtin.clear_, run_underlying Yba.underlying22]

/-- 'copy(k.opad, k.ipad)'. -/
theorem copy_opad {W : World} {pb B : Nat} {R : Nat → Int} (h : Row W pb 0 (2 * B) R) :
    ∃ W2, (∀ ty, (Builtin.copy_ #[22, 22] ty #[.slice (some ⟨pb, B, none⟩) B B, .slice (some ⟨pb, 0, none⟩) B B]).run Yba.prog W = .ok (goInt B) W2) ∧ Kept (· = pb) W W2 ∧ Row W2 pb 0 (2 * B) (fun j => if j < B then R j else R (j - B)) := by
  have hrow : Row W pb B B (fun j => R (B + j)) := ⟨fun j hj => by have := h.cell (B + j) (by omega); rwa [Nat.zero_add] at this, fun j hj => by have := h.frz (B + j) (by omega); rwa [Nat.zero_add] at this⟩
  refine ⟨W.setCells pb B (bytes B R), fun ty => run_copy_bytes Yba.underlying22 size5 ty W pb B B B pb 0 B B B R (by simp) hrow (Nat.le_refl _) (fun j hj => h.cell j (by omega)), Kept.setCells pb _ B (Kept.refl _ _) (.inl rfl), ?_⟩
  have := h.stores B B R (by omega)
  rw [Nat.zero_add] at this
  exact this.congr (fun j hj => by
    by_cases hjB : j < B
    · rw [if_neg (by omega), if_pos hjB]
    · rw [if_pos (by omega), if_neg hjB])

set_option maxHeartbeats 1000000 in
theorem setKey_short (hv : Value) (pb B : Nat) (t : ByteArray) (w : World) (hB : B ≤ 64) (hB0 : 0 < B) (ht : t.size ≤ B) (hpb : pb < w.heap.size) (hrow : Row w pb 0 (2 * B) (fun _ => 0)) :
    Calls Yba.prog 18 #[.agg #[hv, .slice (some ⟨pb, 0, none⟩) B B, .slice (some ⟨pb, B, none⟩) B B], .string t] w fun e w' => e = .returned (.tuple #[]) ∧ Kept (· = pb) w w' ∧ Row w' pb 0 (2 * B) (padTo B (fun j => if j < t.size then byteAt t j else 0) B) := by
  have hrow0 : Row (w.alloc (.cells #[hv, .slice (some ⟨pb, 0, none⟩) B B, .slice (some ⟨pb, B, none⟩) B B] 45)) pb 0 (2 * B) (fun _ => 0) := hrow.kept (S := fun _ => False) (Kept.alloc (Kept.refl _ w) _) hpb id
  obtain ⟨W1, hcp, hk1, hr1⟩ : ∃ W1, (Builtin.copy_ #[22, 9] 3 #[.slice (some ⟨pb, 0, none⟩) B B, .string t]).run Yba.prog (w.alloc (.cells #[hv, .slice (some ⟨pb, 0, none⟩) B B, .slice (some ⟨pb, B, none⟩) B B] 45)) = .ok (goInt t.size) W1 ∧
      Kept (· = pb) (w.alloc (.cells #[hv, .slice (some ⟨pb, 0, none⟩) B B, .slice (some ⟨pb, B, none⟩) B B] 45)) W1 ∧ Row W1 pb 0 (2 * B) (fun j => if j < t.size then byteAt t j else 0) := by
    refine ⟨_, run_copy_string (P := Yba.prog) _ 22 9 3 5 pb 0 B B t Yba.underlying22 sizeOf5 ht (fun j hj => by rw [hrow0.cell j (by omega)]; rfl) (fun j hj => hrow0.frz j (by omega)), Kept.setCells pb _ 0 (Kept.refl _ _) (.inl rfl), ?_⟩
    rw [bytes_string]
    exact (hrow0.stores 0 t.size (byteAt t) (by omega)).congr (fun j _ => by simp)
  have box : ∀ W, Kept (· = pb) (w.alloc (.cells #[hv, .slice (some ⟨pb, 0, none⟩) B B, .slice (some ⟨pb, B, none⟩) B B] 45)) W → W.cell? ⟨w.heap.size, 1, none⟩ = some (.slice (some ⟨pb, 0, none⟩) B B) ∧ W.cell? ⟨w.heap.size, 2, none⟩ = some (.slice (some ⟨pb, B, none⟩) B B) := fun W hW => by
    rw [hW.cell (p := ⟨w.heap.size, 1, none⟩) (by simp) (by show ¬ w.heap.size = pb; omega), hW.cell (p := ⟨w.heap.size, 2, none⟩) (by simp) (by show ¬ w.heap.size = pb; omega)]
    exact ⟨by go_simp, by go_simp⟩
  have b1 := box W1 hk1
  obtain ⟨W2, hcl, hk2, hr2⟩ := clear_rest t.size ht hr1
  have b2 := box W2 (hk1.trans hk2)
  obtain ⟨W3, hco, hk3, hr3⟩ := copy_opad hr2
  have hk13 := (hk1.trans hk2).trans hk3
  have hr3' : Row W3 pb 0 (2 * B) (padTo B (fun j => if j < t.size then byteAt t j else 0) 0) := hr3.congr (fun j hj => by
    unfold padTo
    simp only [Nat.not_lt_zero, if_false]
    by_cases hj1 : j < B
    · simp only [if_pos hj1]
      by_cases hj2 : j < t.size
      · rw [if_neg (by omega)]
      · rw [if_pos (by omega), if_neg hj2]
    · simp only [if_neg hj1]
      by_cases hj2 : j - B < t.size
      · rw [if_neg (by omega)]
      · rw [if_pos (by omega), if_neg hj2])
  clear hr3 hr2 hr1 hrow0 hk3 hk2 hk1
  generalize (fun j => if j < t.size then byteAt t j else 0) = K at *
  have hfin : ∀ W, Kept (· = pb) W3 W → Kept (· = pb) w W := fun W hW => ((Kept.alloc (Kept.refl _ w) _).trans hk13).trans hW
  by_cases hlt : t.size < B
  · have hcl' := hcl 0
    rw [if_pos hlt] at hcl'
    clear hcl
    go_enter Yba.func18, Yba.ntmps18
    go_wp2_with fail
    go_loopw [46] (fun i wr => ∃ n : Nat, n ≤ B ∧ i = .int .i64 n ∧ Row wr pb 0 (2 * B) (padTo B K n) ∧ Kept (· = pb) W3 wr) (fun i _ => B - (intOf i).toNat)
    case atStart => exact ⟨0, Nat.zero_le _, rfl, hr3', Kept.refl _ _⟩
    case round =>
      obtain ⟨n, hn, rfl, hr, hk⟩ := hrel
      by_cases hnB : n < B
      · have e0 := hr.cell n (by omega)
        have e1 := hr.cell (B + n) (by omega)
        have g0 := hr.frz n (by omega)
        have g1 := hr.frz (B + n) (by omega)
        rw [Nat.zero_add, padTo_lo hnB] at e0
        rw [Nat.zero_add, padTo_hi] at e1
        rw [Nat.zero_add] at g0 g1
        have bb := box wr (hk13.trans hk)
        have bb2 := box (wr.setCell ⟨pb, n, none⟩ (.int .u8 (bits .xor .u8 (K n) 54))) ((hk13.trans hk).setCell (a := ⟨pb, n, none⟩) (.inl rfl) _)
        have e2 : (wr.setCell ⟨pb, n, none⟩ (.int .u8 (bits .xor .u8 (K n) 54))).cell? ⟨pb, B + n, none⟩ = some (.int .u8 (K n)) := (World.cell?_setCell_other wr ⟨pb, n, none⟩ ⟨pb, B + n, none⟩ _ (by simp <;> omega)).trans e1
        have hst := padTo_step hr hnB
        clear box hfin hr3'
        go_wp2
        go_roundw
        case rel => exact ⟨n + 1, by omega, by go_num, hst, (hk.setCell (a := ⟨pb, n, none⟩) (.inl rfl) _).setCell (a := ⟨pb, B + n, none⟩) (.inl rfl) _⟩
        case measure => simp [intOf]; omega
      · obtain rfl : n = B := by omega
        go_wp2
        go_end0
        exact ⟨rfl, hfin _ hk, hr⟩
  · have hcl' := hcl 0
    rw [if_neg hlt] at hcl'
    clear hcl
    have hfull : t.size = B := by omega
    go_enter Yba.func18, Yba.ntmps18
    go_wp2_with fail
    go_loopw [46] (fun i wr => ∃ n : Nat, n ≤ B ∧ i = .int .i64 n ∧ Row wr pb 0 (2 * B) (padTo B K n) ∧ Kept (· = pb) W3 wr) (fun i _ => B - (intOf i).toNat)
    case atStart => exact ⟨0, Nat.zero_le _, rfl, hr3', Kept.refl _ _⟩
    case round =>
      obtain ⟨n, hn, rfl, hr, hk⟩ := hrel
      by_cases hnB : n < B
      · have e0 := hr.cell n (by omega)
        have e1 := hr.cell (B + n) (by omega)
        have g0 := hr.frz n (by omega)
        have g1 := hr.frz (B + n) (by omega)
        rw [Nat.zero_add, padTo_lo hnB] at e0
        rw [Nat.zero_add, padTo_hi] at e1
        rw [Nat.zero_add] at g0 g1
        have bb := box wr (hk13.trans hk)
        have bb2 := box (wr.setCell ⟨pb, n, none⟩ (.int .u8 (bits .xor .u8 (K n) 54))) ((hk13.trans hk).setCell (a := ⟨pb, n, none⟩) (.inl rfl) _)
        have e2 : (wr.setCell ⟨pb, n, none⟩ (.int .u8 (bits .xor .u8 (K n) 54))).cell? ⟨pb, B + n, none⟩ = some (.int .u8 (K n)) := (World.cell?_setCell_other wr ⟨pb, n, none⟩ ⟨pb, B + n, none⟩ _ (by simp <;> omega)).trans e1
        have hst := padTo_step hr hnB
        clear box hfin hr3'
        go_wp2
        go_roundw
        case rel => exact ⟨n + 1, by omega, by go_num, hst, (hk.setCell (a := ⟨pb, n, none⟩) (.inl rfl) _).setCell (a := ⟨pb, B + n, none⟩) (.inl rfl) _⟩
        case measure => simp [intOf]; omega
      · obtain rfl : n = B := by omega
        go_wp2
        go_end0
        exact ⟨rfl, hfin _ hk, hr⟩
end Go.Proofs.Ybulkcvda
