/-
  The law's own text: the pads that key has made are compared with the token (or with the digest) byte by byte; the four cases of the two lengths.
-/
import Derived.Test.YbulkcvdaKeyBoth
import Derived.Laws.IdiomStrings
import Derived.LaidEqlPtr
import Derived.Laws.EntriesVeiled
import Derived.WalkSmall
import Derived.Deep.OwnRows
import Derived.Deep.QuietTactic
import Derived.BigQuiet
namespace Go.Proofs.Ybulkcvda
open Go.RowKit

/-- The slice that came in: it has no element; or it leads to a row of bytes. -/
def IsDig (w : World) (a : Option Addr) (len : Nat) (Z : Nat → Int) : Prop :=
  len = 0 ∨ ∃ b off, a = some ⟨b, off, none⟩ ∧ b < w.heap.size ∧ ∀ j, j < len → w.cell? ⟨b, off + j, none⟩ = some (.int .u8 (Z j))

/-- 'd := make([]byte, dn); copy(d, dig)'. -/
theorem copy_dig (a : Option Addr) (len cap dn : Nat) (Z : Nat → Int) (w : World) (h : IsDig w a len Z) (hdn : dn ≤ len) :
    ∃ W1, (∀ ty, (Builtin.copy_ #[22, 22] ty #[.slice (some ⟨w.heap.size, 0, none⟩) dn dn, .slice a len cap]).run Yba.prog (w.alloc (.cells (madeCells #[.int .u8 0] dn) 5)) = .ok (goInt dn) W1) ∧ Below w.heap.size w W1 ∧ W1.heap.size = w.heap.size + 1 ∧
      ∀ j, j < dn → W1.cell? ⟨w.heap.size, 0 + j, none⟩ = some (.int .u8 (Z j)) := by
  have hmade := Row.made w 5 dn
  have hbel : Below w.heap.size w (w.alloc (.cells (madeCells #[.int .u8 0] dn) 5)) := (Below.refl _ w).alloc (Nat.le_refl _) _
  by_cases h0 : dn = 0
  · subst h0
    exact ⟨_, fun ty => run_copy_none (P := Yba.prog) _ 22 22 ty 5 (some ⟨w.heap.size, 0, none⟩) a 0 0 len cap Yba.underlying22 size5 (by simp), hbel, by simp, fun j hj => absurd hj (Nat.not_lt_zero _)⟩
  · rcases h with h | ⟨b, off, rfl, hb, hc⟩
    · omega
    · have hsrc : ∀ j, j < dn → (w.alloc (.cells (madeCells #[.int .u8 0] dn) 5)).cell? ⟨b, off + j, none⟩ = some (.int .u8 (Z j)) := fun j hj => (hbel.cell (p := ⟨b, off + j, none⟩) hb).trans (hc j (by omega))
      refine ⟨_, fun ty => run_copy_bytes Yba.underlying22 size5 ty _ w.heap.size 0 dn dn b off len cap dn Z (Nat.min_eq_right hdn).symm hmade (Nat.le_refl _) hsrc, ?_, ?_, fun j hj => ?_⟩
      · exact (Kept.setCells (S := fun k => w.heap.size ≤ k) w.heap.size _ 0 (Kept.ofBelow hbel _) (.inl (Nat.le_refl _))).below (fun _ h => h) (Nat.le_refl _)
      · have : ∀ (vs : List Value) (o : Nat) (W : World), (W.setCells w.heap.size o vs).heap.size = W.heap.size := by
          intro vs
          induction vs with
          | nil => intro o W; rfl
          | cons v vs ih => intro o W; rw [World.setCells, ih]; simp [World.setCell]
        rw [this]; simp
      · have := (hmade.stores 0 dn Z (by omega)).cell j hj
        rw [this]
        simp [hj]

theorem assert35 (v : Value) (w : World) : (Instr.typeAssert (.iface 35 v) 39 35 true).run Yba.prog w = .ok (.tuple #[v, .bool true]) w := by kernel_rfl
theorem info37 : ∃ j, Yba.prog.info? 37 = some j := by
  have h : (Yba.prog.info? 37).isSome = true := by kernel_rfl
  exact Option.isSome_iff_exists.1 h
theorem under35 : Yba.prog.underlying 35 = some (.pointer 37) := by kernel_rfl
theorem ptr_neq (b : Nat) (w : World) : (binOp .neq 35 (.pointer (some ⟨b, 0, none⟩)) (.pointer (some ⟨b, 0, none⟩))).run Yba.prog w = .ok (.bool false) w := by
  obtain ⟨j, hj⟩ := info37
  have h : ∀ d : Nat, (Op.equalIn (d + 1) 35 (.pointer (some ⟨b, 0, none⟩)) (.pointer (some ⟨b, 0, none⟩))).run Yba.prog w = .ok true w := fun d => by
    simp [Op.equalIn, run_underlying under35, sizeOf, typeInfo, hj, run_sameAddr_same]
  simp only [binOp]
  simp [Op.equal, Op.maxDepth, h 9999]
/-- 'string(hf.written)'. -/
theorem back (g gcap : Nat) (t : ByteArray) (w : World) (h : ∀ j, j < t.size → w.cell? ⟨g, 0 + j, none⟩ = some (.int .u8 (byteAt t j))) :
    (convert 22 9 (.slice (some ⟨g, 0, none⟩) t.size gcap)).run Yba.prog w = .ok (.string t) w := by
  have := run_convert_bytes_back (P := Yba.prog) w 22 9 5 ⟨g, 0, none⟩ gcap t.data.toList Yba.underlying22 Yba.underlying5 Yba.underlying9 (fun j hj => by
    have := h j (by rw [Lib.size_eq]; exact hj)
    rw [WideShapes.add_plain, this]
    simp only [byteAt, List.getD, List.getElem?_eq_getElem hj, Option.getD_some])
  rw [Lib.size_eq]
  exact this

set_option maxRecDepth 100000 in
set_option maxHeartbeats 1000000 in
theorem pads_long_small (k : Int) (a : Option Addr) (len cap B : Nat) (Z : Nat → Int) (t : ByteArray) (w : World) (hk : 0 ≤ k ∧ k ≤ 255) (hBe : k % 64 + 1 = (B : Int)) (hlen : len ≤ 4096) (ht : B < t.size) (ht2 : t.size ≤ 4096) (h : IsDig w a len Z) (hlB : len ≤ B) :
    Calls Yba.prog 5 #[.int .u8 k, .slice a len cap, .string t] w fun e w' => e = .returned (.bool true) ∧ Below w.heap.size w w' := by
  have hB : B ≤ 64 := by omega
  have hB0 : 0 < B := by omega
  have ht3 : decide (4096 < (t.size : Int)) = false := by simp; omega
  have hl3 : decide (4096 < (len : Int)) = false := by simp; omega
  have hd3 : decide ((B : Int) < (len : Int)) = false := by simp; omega
  have hmk := make22 len (by omega)
  obtain ⟨W1, hcp, hb1, z1, hd1⟩ := copy_dig a len cap len Z w h (by omega)
  have hcp' := hcp 3
  clear hcp
  -- the world ahead of key
  obtain ⟨Wk, hWk⟩ : ∃ Wk, Wk = (((W1.alloc (.cells #[.int .i64 B, .slice (some ⟨w.heap.size, 0, none⟩) len len, .int .i64 0, .int .i64 0, .slice none 0 0] 37)).alloc (.cells #[.pointer (some ⟨w.heap.size + 1, 0, none⟩)] 35)).alloc (.cells #[.int .i64 0] 3)).alloc
      (.cells #[.func (.func 12) #[] #[.pointer (some ⟨w.heap.size + 1 + 1 + 1, 0, none⟩), .pointer (some ⟨w.heap.size + 1 + 1, 0, none⟩)], .int .i64 32, .string ⟨#[]⟩] 43) := ⟨_, rfl⟩
  have zk : Wk.heap.size = w.heap.size + 1 + 1 + 1 + 1 + 1 := by rw [hWk]; simp [z1]
  have kk : Kept (fun _ => False) W1 Wk := by rw [hWk]; exact (((Kept.alloc (Kept.refl _ W1) _).alloc _).alloc _).alloc _
  have hh : Hash Wk (w.heap.size + 1)  w.heap.size B len Z := by
    refine ⟨by omega, by omega, by omega, ?_, ?_, ?_, ?_, ?_, fun j => ?_, fun j hj => (kk.cell (p := ⟨w.heap.size, 0 + j, none⟩) (by show w.heap.size < W1.heap.size; omega) id).trans (hd1 j hj)⟩ <;> rw [hWk] <;> go_simp
  have hc0 : Wk.cell? ⟨w.heap.size + 1 + 1 + 1, 0, none⟩ = some (.int .i64 0) ∧ Wk.frozen? ⟨w.heap.size + 1 + 1 + 1, 0, none⟩ = false ∧ Wk.cell? ⟨w.heap.size + 1 + 1, 0, none⟩ = some (.pointer (some ⟨w.heap.size + 1, 0, none⟩)) := by
    rw [hWk]; exact ⟨by go_simp, by go_simp, by go_simp⟩
  go_enter Yba.func5, Yba.ntmps5
  go_wp2_with fail
  rw [← hWk]
  refine (key_long (w.heap.size + 1 + 1 + 1) (w.heap.size + 1 + 1) (w.heap.size + 1)  w.heap.size B len Z t Wk hB hB0 ht ht2 (by omega) (by omega) (by omega) (by omega) (by omega) (by omega) hc0.1 hc0.2.1 hc0.2.2 hh).mono ?_
  rintro e w3 ⟨pb, rfl, hpb, k3, cc3, hfacts⟩
  have z3 := k3.size
  -- behind key
  obtain ⟨w4, hw4⟩ : ∃ w4, w4 = w3.alloc (.cells #[.iface 35 (.pointer (some ⟨w.heap.size + 1, 0, none⟩)), .slice (some ⟨pb, 0, none⟩) B B, .slice (some ⟨pb, B, none⟩) B B] 45) := ⟨_, rfl⟩
  have k4 : Kept (fun _ => False) w3 w4 := by rw [hw4]; exact Kept.alloc (Kept.refl _ w3) _
  have z4 : w4.heap.size = w3.heap.size + 1 := by rw [hw4]; simp
  have hL := hfacts w4 (k4.mono fun _ _ h => h.elim)
  have c4 : w4.cell? ⟨w.heap.size + 1 + 1 + 1, 0, none⟩ = some (.int .i64 1) := (k4.cell (p := ⟨w.heap.size + 1 + 1 + 1, 0, none⟩) (by show w.heap.size + 1 + 1 + 1 < w3.heap.size; omega) id).trans cc3
  have v4 : w4.cell? ⟨w.heap.size + 1 + 1, 0, none⟩ = some (.pointer (some ⟨w.heap.size + 1, 0, none⟩)) := (k4.cell (p := ⟨w.heap.size + 1 + 1, 0, none⟩) (by show w.heap.size + 1 + 1 < w3.heap.size; omega) id).trans ((k3.cell (p := ⟨w.heap.size + 1 + 1, 0, none⟩) (by show w.heap.size + 1 + 1 < Wk.heap.size; omega) (by show ¬ (w.heap.size + 1 + 1 = w.heap.size + 1 + 1 + 1 ∨ w.heap.size + 1 + 1 = w.heap.size + 1); omega)).trans hc0.2.2)
  have b0 : w4.cell? ⟨w3.heap.size, 0, none⟩ = some (.iface 35 (.pointer (some ⟨w.heap.size + 1, 0, none⟩))) := by rw [hw4]; go_simp
  have b1 : w4.cell? ⟨w3.heap.size, 1, none⟩ = some (.slice (some ⟨pb, 0, none⟩) B B) := by rw [hw4]; go_simp
  have b2 : w4.cell? ⟨w3.heap.size, 2, none⟩ = some (.slice (some ⟨pb, B, none⟩) B B) := by rw [hw4]; go_simp
  have l2 := hL.c2
  have l3 := hL.c3
  obtain ⟨g, gcap, l4, lx⟩ := hL.c4
  clear hcp' hmk
  have hta := assert35
  have hpq := ptr_neq (w.heap.size + 1)
  have hbk := back g gcap t _ lx
  have hbel : Below w.heap.size w w4 := ((hb1.trans (kk.below (fun _ h => h.elim) (by omega))).trans (k3.below (fun k h => by omega) (by omega))).trans (k4.below (fun _ h => h.elim) (by omega))
  have hd4 : ∀ j, j < len → w4.cell? ⟨w.heap.size, j, none⟩ = some (.int .u8 (Z j)) := fun j hj => by
    have := ((k4.cell (p := ⟨w.heap.size, 0 + j, none⟩) (by show w.heap.size < w3.heap.size; omega) id).trans (k3.cell (p := ⟨w.heap.size, 0 + j, none⟩) (by show w.heap.size < Wk.heap.size; omega) (by show ¬ (w.heap.size = w.heap.size + 1 + 1 + 1 ∨ w.heap.size = w.heap.size + 1); omega))).trans (hh.d j hj)
    rwa [Nat.zero_add] at this
  have hg4 : ∀ j, j < len → ∃ b off, a = some ⟨b, off, none⟩ ∧ w4.cell? ⟨b, off + j, none⟩ = some (.int .u8 (Z j)) := fun j hj => by
    rcases h with h | ⟨b, off, rfl, hb, hc⟩
    · omega
    · exact ⟨b, off, rfl, (hbel.cell (p := ⟨b, off + j, none⟩) hb).trans (hc j (by omega))⟩
  have hlo : ∀ i, i < B → w4.cell? ⟨pb, i, none⟩ = some (.int .u8 (bits .xor .u8 (if i < len then Z i else 0) 54)) := fun i hi => by
    have := hL.row.cell i (by omega)
    rw [Nat.zero_add] at this
    rw [this]; simp [padTo, hi]
  have hhi : ∀ i, i < B → w4.cell? ⟨pb, B + i, none⟩ = some (.int .u8 (bits .xor .u8 (if i < len then Z i else 0) 92)) := fun i hi => by
    have := hL.row.cell (B + i) (by omega)
    rw [Nat.zero_add] at this
    rw [this]; simp [padTo, hi, show ¬ (B + i < B) by omega]
  clear hL hh hb1 hd1 kk hWk k3 k4 h hfacts cc3 hc0
  subst hw4
  go_wp2_with fail
  generalize w3.alloc (.cells #[.iface 35 (.pointer (some ⟨w.heap.size + 1, 0, none⟩)), .slice (some ⟨pb, 0, none⟩) B B, .slice (some ⟨pb, B, none⟩) B B] 45) = w5 at *
  go_loop [17] (fun i => ∃ n : Nat, n ≤ B ∧ i = .int .i64 n) (fun i => B - (intOf i).toNat)
  case atStart => exact ⟨0, Nat.zero_le _, rfl⟩
  case round =>
    obtain ⟨n, hn, rfl⟩ := hrel
    by_cases hnB : n < B
    · have e0 := hlo n hnB
      have e1 := hhi n hnB
      by_cases hnl : n < len
      · have e2 := hd4 n hnl
        rw [if_pos hnl] at e0 e1
        clear hlo hhi hd4 hg4
        go_wp2_with fail
        go_round
        case rel => exact ⟨n + 1, by omega, by go_num⟩
        case measure => simp [intOf]; omega
      · rw [if_neg hnl] at e0 e1
        clear hlo hhi hd4 hg4
        go_wp2_with fail
        go_round
        case rel => exact ⟨n + 1, by omega, by go_num⟩
        case measure => simp [intOf]; omega
    · obtain rfl : n = B := by omega
      go_wp2_with fail
      go_loopw [19] (fun i wr => ∃ m q : Nat, m ≤ len ∧ i = .int .i64 m ∧ wr = w5.drewN q) (fun i _ => len - (intOf i).toNat)
      case atStart => exact ⟨0, 0, Nat.zero_le _, rfl, rfl⟩
      case round =>
        obtain ⟨m, q, hm, rfl, rfl⟩ := hrel
        by_cases hlt : m < len
        · obtain ⟨b, off, rfl, c1⟩ := hg4 m hlt
          have c0 := hd4 m hlt
          have hlt' : (m : Int) < (len : Int) := by omega
          have h0' : (0 : Int) ≤ (m : Int) := by omega
          go_wp2_with fail
          go_quiet (fail)
          go_wp2
          go_roundw
          case rel => exact ⟨m + 1, q + nq, by omega, by go_num, by simp [World.drewN]⟩
          case measure => simp [intOf]; omega
        · go_wp2_with fail
          go_ret
          exact ⟨rfl, below_drewN hbel q⟩
set_option maxRecDepth 100000 in
set_option maxHeartbeats 1000000 in
theorem pads_long_big (k : Int) (a : Option Addr) (len cap B : Nat) (Z : Nat → Int) (t : ByteArray) (w : World) (hk : 0 ≤ k ∧ k ≤ 255) (hBe : k % 64 + 1 = (B : Int)) (hlen : len ≤ 4096) (ht : B < t.size) (ht2 : t.size ≤ 4096) (h : IsDig w a len Z) (hlB : B < len) :
    Calls Yba.prog 5 #[.int .u8 k, .slice a len cap, .string t] w fun e w' => e = .returned (.bool true) ∧ Below w.heap.size w w' := by
  have hB : B ≤ 64 := by omega
  have hB0 : 0 < B := by omega
  have ht3 : decide (4096 < (t.size : Int)) = false := by simp; omega
  have hl3 : decide (4096 < (len : Int)) = false := by simp; omega
  have hd3 : decide ((B : Int) < (len : Int)) = true := by simp; omega
  have hmk := make22 B (by omega)
  obtain ⟨W1, hcp, hb1, z1, hd1⟩ := copy_dig a len cap B Z w h (by omega)
  have hcp' := hcp 3
  clear hcp
  -- the world ahead of key
  obtain ⟨Wk, hWk⟩ : ∃ Wk, Wk = (((W1.alloc (.cells #[.int .i64 B, .slice (some ⟨w.heap.size, 0, none⟩) B B, .int .i64 0, .int .i64 0, .slice none 0 0] 37)).alloc (.cells #[.pointer (some ⟨w.heap.size + 1, 0, none⟩)] 35)).alloc (.cells #[.int .i64 0] 3)).alloc
      (.cells #[.func (.func 12) #[] #[.pointer (some ⟨w.heap.size + 1 + 1 + 1, 0, none⟩), .pointer (some ⟨w.heap.size + 1 + 1, 0, none⟩)], .int .i64 32, .string ⟨#[]⟩] 43) := ⟨_, rfl⟩
  have zk : Wk.heap.size = w.heap.size + 1 + 1 + 1 + 1 + 1 := by rw [hWk]; simp [z1]
  have kk : Kept (fun _ => False) W1 Wk := by rw [hWk]; exact (((Kept.alloc (Kept.refl _ W1) _).alloc _).alloc _).alloc _
  have hh : Hash Wk (w.heap.size + 1)  w.heap.size B B Z := by
    refine ⟨by omega, by omega, by omega, ?_, ?_, ?_, ?_, ?_, fun j => ?_, fun j hj => (kk.cell (p := ⟨w.heap.size, 0 + j, none⟩) (by show w.heap.size < W1.heap.size; omega) id).trans (hd1 j hj)⟩ <;> rw [hWk] <;> go_simp
  have hc0 : Wk.cell? ⟨w.heap.size + 1 + 1 + 1, 0, none⟩ = some (.int .i64 0) ∧ Wk.frozen? ⟨w.heap.size + 1 + 1 + 1, 0, none⟩ = false ∧ Wk.cell? ⟨w.heap.size + 1 + 1, 0, none⟩ = some (.pointer (some ⟨w.heap.size + 1, 0, none⟩)) := by
    rw [hWk]; exact ⟨by go_simp, by go_simp, by go_simp⟩
  go_enter Yba.func5, Yba.ntmps5
  go_wp2_with fail
  rw [← hWk]
  refine (key_long (w.heap.size + 1 + 1 + 1) (w.heap.size + 1 + 1) (w.heap.size + 1)  w.heap.size B B Z t Wk hB hB0 ht ht2 (by omega) (by omega) (by omega) (by omega) (by omega) (by omega) hc0.1 hc0.2.1 hc0.2.2 hh).mono ?_
  rintro e w3 ⟨pb, rfl, hpb, k3, cc3, hfacts⟩
  have z3 := k3.size
  -- behind key
  obtain ⟨w4, hw4⟩ : ∃ w4, w4 = w3.alloc (.cells #[.iface 35 (.pointer (some ⟨w.heap.size + 1, 0, none⟩)), .slice (some ⟨pb, 0, none⟩) B B, .slice (some ⟨pb, B, none⟩) B B] 45) := ⟨_, rfl⟩
  have k4 : Kept (fun _ => False) w3 w4 := by rw [hw4]; exact Kept.alloc (Kept.refl _ w3) _
  have z4 : w4.heap.size = w3.heap.size + 1 := by rw [hw4]; simp
  have hL := hfacts w4 (k4.mono fun _ _ h => h.elim)
  have c4 : w4.cell? ⟨w.heap.size + 1 + 1 + 1, 0, none⟩ = some (.int .i64 1) := (k4.cell (p := ⟨w.heap.size + 1 + 1 + 1, 0, none⟩) (by show w.heap.size + 1 + 1 + 1 < w3.heap.size; omega) id).trans cc3
  have v4 : w4.cell? ⟨w.heap.size + 1 + 1, 0, none⟩ = some (.pointer (some ⟨w.heap.size + 1, 0, none⟩)) := (k4.cell (p := ⟨w.heap.size + 1 + 1, 0, none⟩) (by show w.heap.size + 1 + 1 < w3.heap.size; omega) id).trans ((k3.cell (p := ⟨w.heap.size + 1 + 1, 0, none⟩) (by show w.heap.size + 1 + 1 < Wk.heap.size; omega) (by show ¬ (w.heap.size + 1 + 1 = w.heap.size + 1 + 1 + 1 ∨ w.heap.size + 1 + 1 = w.heap.size + 1); omega)).trans hc0.2.2)
  have b0 : w4.cell? ⟨w3.heap.size, 0, none⟩ = some (.iface 35 (.pointer (some ⟨w.heap.size + 1, 0, none⟩))) := by rw [hw4]; go_simp
  have b1 : w4.cell? ⟨w3.heap.size, 1, none⟩ = some (.slice (some ⟨pb, 0, none⟩) B B) := by rw [hw4]; go_simp
  have b2 : w4.cell? ⟨w3.heap.size, 2, none⟩ = some (.slice (some ⟨pb, B, none⟩) B B) := by rw [hw4]; go_simp
  have l2 := hL.c2
  have l3 := hL.c3
  obtain ⟨g, gcap, l4, lx⟩ := hL.c4
  clear hcp' hmk
  have hta := assert35
  have hpq := ptr_neq (w.heap.size + 1)
  have hbk := back g gcap t _ lx
  have hbel : Below w.heap.size w w4 := ((hb1.trans (kk.below (fun _ h => h.elim) (by omega))).trans (k3.below (fun k h => by omega) (by omega))).trans (k4.below (fun _ h => h.elim) (by omega))
  have hd4 : ∀ j, j < B → w4.cell? ⟨w.heap.size, j, none⟩ = some (.int .u8 (Z j)) := fun j hj => by
    have := ((k4.cell (p := ⟨w.heap.size, 0 + j, none⟩) (by show w.heap.size < w3.heap.size; omega) id).trans (k3.cell (p := ⟨w.heap.size, 0 + j, none⟩) (by show w.heap.size < Wk.heap.size; omega) (by show ¬ (w.heap.size = w.heap.size + 1 + 1 + 1 ∨ w.heap.size = w.heap.size + 1); omega))).trans (hh.d j hj)
    rwa [Nat.zero_add] at this
  have hg4 : ∀ j, j < B → ∃ b off, a = some ⟨b, off, none⟩ ∧ w4.cell? ⟨b, off + j, none⟩ = some (.int .u8 (Z j)) := fun j hj => by
    rcases h with h | ⟨b, off, rfl, hb, hc⟩
    · omega
    · exact ⟨b, off, rfl, (hbel.cell (p := ⟨b, off + j, none⟩) hb).trans (hc j (by omega))⟩
  have hlo : ∀ i, i < B → w4.cell? ⟨pb, i, none⟩ = some (.int .u8 (bits .xor .u8 (if i < B then Z i else 0) 54)) := fun i hi => by
    have := hL.row.cell i (by omega)
    rw [Nat.zero_add] at this
    rw [this]; simp [padTo, hi]
  have hhi : ∀ i, i < B → w4.cell? ⟨pb, B + i, none⟩ = some (.int .u8 (bits .xor .u8 (if i < B then Z i else 0) 92)) := fun i hi => by
    have := hL.row.cell (B + i) (by omega)
    rw [Nat.zero_add] at this
    rw [this]; simp [padTo, hi, show ¬ (B + i < B) by omega]
  clear hL hh hb1 hd1 kk hWk k3 k4 h hfacts cc3 hc0
  subst hw4
  go_wp2_with fail
  generalize w3.alloc (.cells #[.iface 35 (.pointer (some ⟨w.heap.size + 1, 0, none⟩)), .slice (some ⟨pb, 0, none⟩) B B, .slice (some ⟨pb, B, none⟩) B B] 45) = w5 at *
  go_loop [17] (fun i => ∃ n : Nat, n ≤ B ∧ i = .int .i64 n) (fun i => B - (intOf i).toNat)
  case atStart => exact ⟨0, Nat.zero_le _, rfl⟩
  case round =>
    obtain ⟨n, hn, rfl⟩ := hrel
    by_cases hnB : n < B
    · have e0 := hlo n hnB
      have e1 := hhi n hnB
      by_cases hnl : n < B
      · have e2 := hd4 n hnl
        rw [if_pos hnl] at e0 e1
        clear hlo hhi hd4 hg4
        go_wp2_with fail
        go_round
        case rel => exact ⟨n + 1, by omega, by go_num⟩
        case measure => simp [intOf]; omega
      · exact absurd hnB hnl
    · obtain rfl : B = n := by omega
      go_wp2_with fail
      go_loopw [19] (fun i wr => ∃ m q : Nat, m ≤ B ∧ i = .int .i64 m ∧ wr = w5.drewN q) (fun i _ => B - (intOf i).toNat)
      case atStart => exact ⟨0, 0, Nat.zero_le _, rfl, rfl⟩
      case round =>
        obtain ⟨m, q, hm, rfl, rfl⟩ := hrel
        by_cases hlt : m < B
        · obtain ⟨b, off, rfl, c1⟩ := hg4 m hlt
          have c0 := hd4 m hlt
          have hlt' : (m : Int) < (B : Int) := by omega
          have h0' : (0 : Int) ≤ (m : Int) := by omega
          go_wp2_with fail
          go_quiet (fail)
          go_wp2
          go_roundw
          case rel => exact ⟨m + 1, q + nq, by omega, by go_num, by simp [World.drewN]⟩
          case measure => simp [intOf]; omega
        · go_wp2_with fail
          go_ret
          exact ⟨rfl, below_drewN hbel q⟩
set_option maxRecDepth 100000 in
set_option maxHeartbeats 1000000 in
theorem pads_short_small (k : Int) (a : Option Addr) (len cap B : Nat) (Z : Nat → Int) (t : ByteArray) (w : World) (hk : 0 ≤ k ∧ k ≤ 255) (hBe : k % 64 + 1 = (B : Int)) (hlen : len ≤ 4096) (ht : t.size ≤ B) (ht2 : t.size ≤ 4096) (h : IsDig w a len Z) (hlB : len ≤ B) :
    Calls Yba.prog 5 #[.int .u8 k, .slice a len cap, .string t] w fun e w' => e = .returned (.bool true) ∧ Below w.heap.size w w' := by
  have hB : B ≤ 64 := by omega
  have hB0 : 0 < B := by omega
  have ht3 : decide (4096 < (t.size : Int)) = false := by simp; omega
  have hl3 : decide (4096 < (len : Int)) = false := by simp; omega
  have hd3 : decide ((B : Int) < (len : Int)) = false := by simp; omega
  have hmk := make22 len (by omega)
  obtain ⟨W1, hcp, hb1, z1, hd1⟩ := copy_dig a len cap len Z w h (by omega)
  have hcp' := hcp 3
  clear hcp
  -- the world ahead of key
  obtain ⟨Wk, hWk⟩ : ∃ Wk, Wk = (((W1.alloc (.cells #[.int .i64 B, .slice (some ⟨w.heap.size, 0, none⟩) len len, .int .i64 0, .int .i64 0, .slice none 0 0] 37)).alloc (.cells #[.pointer (some ⟨w.heap.size + 1, 0, none⟩)] 35)).alloc (.cells #[.int .i64 0] 3)).alloc
      (.cells #[.func (.func 12) #[] #[.pointer (some ⟨w.heap.size + 1 + 1 + 1, 0, none⟩), .pointer (some ⟨w.heap.size + 1 + 1, 0, none⟩)], .int .i64 32, .string ⟨#[]⟩] 43) := ⟨_, rfl⟩
  have zk : Wk.heap.size = w.heap.size + 1 + 1 + 1 + 1 + 1 := by rw [hWk]; simp [z1]
  have kk : Kept (fun _ => False) W1 Wk := by rw [hWk]; exact (((Kept.alloc (Kept.refl _ W1) _).alloc _).alloc _).alloc _
  have hh : Hash Wk (w.heap.size + 1)  w.heap.size B len Z := by
    refine ⟨by omega, by omega, by omega, ?_, ?_, ?_, ?_, ?_, fun j => ?_, fun j hj => (kk.cell (p := ⟨w.heap.size, 0 + j, none⟩) (by show w.heap.size < W1.heap.size; omega) id).trans (hd1 j hj)⟩ <;> rw [hWk] <;> go_simp
  have hc0 : Wk.cell? ⟨w.heap.size + 1 + 1 + 1, 0, none⟩ = some (.int .i64 0) ∧ Wk.frozen? ⟨w.heap.size + 1 + 1 + 1, 0, none⟩ = false ∧ Wk.cell? ⟨w.heap.size + 1 + 1, 0, none⟩ = some (.pointer (some ⟨w.heap.size + 1, 0, none⟩)) := by
    rw [hWk]; exact ⟨by go_simp, by go_simp, by go_simp⟩
  go_enter Yba.func5, Yba.ntmps5
  go_wp2_with fail
  rw [← hWk]
  refine (key_short (w.heap.size + 1 + 1 + 1) (w.heap.size + 1 + 1) (w.heap.size + 1)  w.heap.size B len Z t Wk hB hB0 ht (by omega) (by omega) (by omega) (by omega) (by omega) hc0.1 hc0.2.1 hc0.2.2 hh).mono ?_
  rintro e w3 ⟨pb, rfl, hpb, k3, cc3, hfacts⟩
  have z3 := k3.size
  -- behind key
  obtain ⟨w4, hw4⟩ : ∃ w4, w4 = w3.alloc (.cells #[.iface 35 (.pointer (some ⟨w.heap.size + 1, 0, none⟩)), .slice (some ⟨pb, 0, none⟩) B B, .slice (some ⟨pb, B, none⟩) B B] 45) := ⟨_, rfl⟩
  have k4 : Kept (fun _ => False) w3 w4 := by rw [hw4]; exact Kept.alloc (Kept.refl _ w3) _
  have z4 : w4.heap.size = w3.heap.size + 1 := by rw [hw4]; simp
  have hL := hfacts w4 (k4.mono fun _ _ h => h.elim)
  have c4 : w4.cell? ⟨w.heap.size + 1 + 1 + 1, 0, none⟩ = some (.int .i64 1) := (k4.cell (p := ⟨w.heap.size + 1 + 1 + 1, 0, none⟩) (by show w.heap.size + 1 + 1 + 1 < w3.heap.size; omega) id).trans cc3
  have v4 : w4.cell? ⟨w.heap.size + 1 + 1, 0, none⟩ = some (.pointer (some ⟨w.heap.size + 1, 0, none⟩)) := (k4.cell (p := ⟨w.heap.size + 1 + 1, 0, none⟩) (by show w.heap.size + 1 + 1 < w3.heap.size; omega) id).trans ((k3.cell (p := ⟨w.heap.size + 1 + 1, 0, none⟩) (by show w.heap.size + 1 + 1 < Wk.heap.size; omega) (by show ¬ (w.heap.size + 1 + 1 = w.heap.size + 1 + 1 + 1 ∨ w.heap.size + 1 + 1 = w.heap.size + 1); omega)).trans hc0.2.2)
  have b0 : w4.cell? ⟨w3.heap.size, 0, none⟩ = some (.iface 35 (.pointer (some ⟨w.heap.size + 1, 0, none⟩))) := by rw [hw4]; go_simp
  have b1 : w4.cell? ⟨w3.heap.size, 1, none⟩ = some (.slice (some ⟨pb, 0, none⟩) B B) := by rw [hw4]; go_simp
  have b2 : w4.cell? ⟨w3.heap.size, 2, none⟩ = some (.slice (some ⟨pb, B, none⟩) B B) := by rw [hw4]; go_simp
  clear hcp' hmk
  have hta := assert35
  have hpq := ptr_neq (w.heap.size + 1)
  have hcv := Lib.run_convert_string_bytes (P := Yba.prog) w4 9 22 5 t Yba.underlying9 Yba.underlying22 Yba.underlying5
  obtain ⟨w5, hw5⟩ : ∃ w5, w5 = Lib.bytesWorld w4 5 t := ⟨_, rfl⟩
  have k5 : Kept (fun _ => False) w4 w5 := by rw [hw5]; exact Kept.bytes _ _ _ _
  have hL5 := hfacts w5 ((k4.trans k5).mono fun _ _ h => h.elim)
  have l2 := hL5.c2
  have l3 := hL5.c3
  have l4 := hL5.c4
  have v5 : w5.cell? ⟨w.heap.size + 1 + 1, 0, none⟩ = some (.pointer (some ⟨w.heap.size + 1, 0, none⟩)) := (k5.cell (p := ⟨w.heap.size + 1 + 1, 0, none⟩) (by show w.heap.size + 1 + 1 < w4.heap.size; omega) id).trans v4
  have b15 : w5.cell? ⟨w3.heap.size, 1, none⟩ = some (.slice (some ⟨pb, 0, none⟩) B B) := (k5.cell (p := ⟨w3.heap.size, 1, none⟩) (by show w3.heap.size < w4.heap.size; omega) id).trans b1
  have b25 : w5.cell? ⟨w3.heap.size, 2, none⟩ = some (.slice (some ⟨pb, B, none⟩) B B) := (k5.cell (p := ⟨w3.heap.size, 2, none⟩) (by show w3.heap.size < w4.heap.size; omega) id).trans b2
  have hbel : Below w.heap.size w w5 := (((hb1.trans (kk.below (fun _ h => h.elim) (by omega))).trans (k3.below (fun k h => by omega) (by omega))).trans (k4.below (fun _ h => h.elim) (by omega))).trans (k5.below (fun _ h => h.elim) (by omega))
  have hK5 : ∀ j, j < t.size → w5.cell? ⟨w3.heap.size + 1, j, none⟩ = some (.int .u8 (byteAt t j)) := fun j hj => by rw [hw5, ← z4]; exact Lib.bytesWorld_cell w4 5 t j hj
  have hd4 : ∀ j, j < len → w5.cell? ⟨w.heap.size, j, none⟩ = some (.int .u8 (Z j)) := fun j hj => by
    have := (((k4.trans k5).cell (p := ⟨w.heap.size, 0 + j, none⟩) (by show w.heap.size < w3.heap.size; omega) id).trans (k3.cell (p := ⟨w.heap.size, 0 + j, none⟩) (by show w.heap.size < Wk.heap.size; omega) (by show ¬ (w.heap.size = w.heap.size + 1 + 1 + 1 ∨ w.heap.size = w.heap.size + 1); omega))).trans (hh.d j hj)
    rwa [Nat.zero_add] at this
  have hg4 : ∀ j, j < len → ∃ b off, a = some ⟨b, off, none⟩ ∧ w5.cell? ⟨b, off + j, none⟩ = some (.int .u8 (Z j)) := fun j hj => by
    rcases h with h | ⟨b, off, rfl, hb, hc⟩
    · omega
    · exact ⟨b, off, rfl, (hbel.cell (p := ⟨b, off + j, none⟩) hb).trans (hc j (by omega))⟩
  have hlo : ∀ i, i < B → w5.cell? ⟨pb, i, none⟩ = some (.int .u8 (bits .xor .u8 (if i < t.size then byteAt t i else 0) 54)) := fun i hi => by
    have := hL5.row.cell i (by omega)
    rw [Nat.zero_add] at this
    rw [this]; simp [padTo, hi]
  have hhi : ∀ i, i < B → w5.cell? ⟨pb, B + i, none⟩ = some (.int .u8 (bits .xor .u8 (if i < t.size then byteAt t i else 0) 92)) := fun i hi => by
    have := hL5.row.cell (B + i) (by omega)
    rw [Nat.zero_add] at this
    rw [this]; simp [padTo, hi, show ¬ (B + i < B) by omega]
  rw [← hw5] at hcv
  clear hL hL5 hh hb1 hd1 kk hWk k3 k4 k5 h hfacts cc3 hc0 hw5
  have z4' := z4
  rw [z4] at hcv
  subst hw4
  go_wp2_with fail
  go_loop [17] (fun i => ∃ n : Nat, n ≤ B ∧ i = .int .i64 n) (fun i => B - (intOf i).toNat)
  case atStart => exact ⟨0, Nat.zero_le _, rfl⟩
  case round =>
    obtain ⟨n, hn, rfl⟩ := hrel
    by_cases hnB : n < B
    · have e0 := hlo n hnB
      have e1 := hhi n hnB
      by_cases hnl : n < t.size
      · have e2 := hK5 n hnl
        rw [if_pos hnl] at e0 e1
        clear hlo hhi hd4 hg4 hK5
        go_wp2_with fail
        go_round
        case rel => exact ⟨n + 1, by omega, by go_num⟩
        case measure => simp [intOf]; omega
      · rw [if_neg hnl] at e0 e1
        clear hlo hhi hd4 hg4 hK5
        go_wp2_with fail
        go_round
        case rel => exact ⟨n + 1, by omega, by go_num⟩
        case measure => simp [intOf]; omega
    · obtain rfl : n = B := by omega
      go_wp2_with fail
      go_loopw [19] (fun i wr => ∃ m q : Nat, m ≤ len ∧ i = .int .i64 m ∧ wr = w5.drewN q) (fun i _ => len - (intOf i).toNat)
      case atStart => exact ⟨0, 0, Nat.zero_le _, rfl, rfl⟩
      case round =>
        obtain ⟨m, q, hm, rfl, rfl⟩ := hrel
        by_cases hlt : m < len
        · obtain ⟨b, off, rfl, c1⟩ := hg4 m hlt
          have c0 := hd4 m hlt
          have hlt' : (m : Int) < (len : Int) := by omega
          have h0' : (0 : Int) ≤ (m : Int) := by omega
          go_wp2_with fail
          go_quiet (fail)
          go_wp2
          go_roundw
          case rel => exact ⟨m + 1, q + nq, by omega, by go_num, by simp [World.drewN]⟩
          case measure => simp [intOf]; omega
        · go_wp2_with fail
          go_ret
          exact ⟨rfl, below_drewN hbel q⟩
set_option maxRecDepth 100000 in
set_option maxHeartbeats 1000000 in
theorem pads_short_big (k : Int) (a : Option Addr) (len cap B : Nat) (Z : Nat → Int) (t : ByteArray) (w : World) (hk : 0 ≤ k ∧ k ≤ 255) (hBe : k % 64 + 1 = (B : Int)) (hlen : len ≤ 4096) (ht : t.size ≤ B) (ht2 : t.size ≤ 4096) (h : IsDig w a len Z) (hlB : B < len) :
    Calls Yba.prog 5 #[.int .u8 k, .slice a len cap, .string t] w fun e w' => e = .returned (.bool true) ∧ Below w.heap.size w w' := by
  have hB : B ≤ 64 := by omega
  have hB0 : 0 < B := by omega
  have ht3 : decide (4096 < (t.size : Int)) = false := by simp; omega
  have hl3 : decide (4096 < (len : Int)) = false := by simp; omega
  have hd3 : decide ((B : Int) < (len : Int)) = true := by simp; omega
  have hmk := make22 B (by omega)
  obtain ⟨W1, hcp, hb1, z1, hd1⟩ := copy_dig a len cap B Z w h (by omega)
  have hcp' := hcp 3
  clear hcp
  -- the world ahead of key
  obtain ⟨Wk, hWk⟩ : ∃ Wk, Wk = (((W1.alloc (.cells #[.int .i64 B, .slice (some ⟨w.heap.size, 0, none⟩) B B, .int .i64 0, .int .i64 0, .slice none 0 0] 37)).alloc (.cells #[.pointer (some ⟨w.heap.size + 1, 0, none⟩)] 35)).alloc (.cells #[.int .i64 0] 3)).alloc
      (.cells #[.func (.func 12) #[] #[.pointer (some ⟨w.heap.size + 1 + 1 + 1, 0, none⟩), .pointer (some ⟨w.heap.size + 1 + 1, 0, none⟩)], .int .i64 32, .string ⟨#[]⟩] 43) := ⟨_, rfl⟩
  have zk : Wk.heap.size = w.heap.size + 1 + 1 + 1 + 1 + 1 := by rw [hWk]; simp [z1]
  have kk : Kept (fun _ => False) W1 Wk := by rw [hWk]; exact (((Kept.alloc (Kept.refl _ W1) _).alloc _).alloc _).alloc _
  have hh : Hash Wk (w.heap.size + 1)  w.heap.size B B Z := by
    refine ⟨by omega, by omega, by omega, ?_, ?_, ?_, ?_, ?_, fun j => ?_, fun j hj => (kk.cell (p := ⟨w.heap.size, 0 + j, none⟩) (by show w.heap.size < W1.heap.size; omega) id).trans (hd1 j hj)⟩ <;> rw [hWk] <;> go_simp
  have hc0 : Wk.cell? ⟨w.heap.size + 1 + 1 + 1, 0, none⟩ = some (.int .i64 0) ∧ Wk.frozen? ⟨w.heap.size + 1 + 1 + 1, 0, none⟩ = false ∧ Wk.cell? ⟨w.heap.size + 1 + 1, 0, none⟩ = some (.pointer (some ⟨w.heap.size + 1, 0, none⟩)) := by
    rw [hWk]; exact ⟨by go_simp, by go_simp, by go_simp⟩
  go_enter Yba.func5, Yba.ntmps5
  go_wp2_with fail
  rw [← hWk]
  refine (key_short (w.heap.size + 1 + 1 + 1) (w.heap.size + 1 + 1) (w.heap.size + 1)  w.heap.size B B Z t Wk hB hB0 ht (by omega) (by omega) (by omega) (by omega) (by omega) hc0.1 hc0.2.1 hc0.2.2 hh).mono ?_
  rintro e w3 ⟨pb, rfl, hpb, k3, cc3, hfacts⟩
  have z3 := k3.size
  -- behind key
  obtain ⟨w4, hw4⟩ : ∃ w4, w4 = w3.alloc (.cells #[.iface 35 (.pointer (some ⟨w.heap.size + 1, 0, none⟩)), .slice (some ⟨pb, 0, none⟩) B B, .slice (some ⟨pb, B, none⟩) B B] 45) := ⟨_, rfl⟩
  have k4 : Kept (fun _ => False) w3 w4 := by rw [hw4]; exact Kept.alloc (Kept.refl _ w3) _
  have z4 : w4.heap.size = w3.heap.size + 1 := by rw [hw4]; simp
  have hL := hfacts w4 (k4.mono fun _ _ h => h.elim)
  have c4 : w4.cell? ⟨w.heap.size + 1 + 1 + 1, 0, none⟩ = some (.int .i64 1) := (k4.cell (p := ⟨w.heap.size + 1 + 1 + 1, 0, none⟩) (by show w.heap.size + 1 + 1 + 1 < w3.heap.size; omega) id).trans cc3
  have v4 : w4.cell? ⟨w.heap.size + 1 + 1, 0, none⟩ = some (.pointer (some ⟨w.heap.size + 1, 0, none⟩)) := (k4.cell (p := ⟨w.heap.size + 1 + 1, 0, none⟩) (by show w.heap.size + 1 + 1 < w3.heap.size; omega) id).trans ((k3.cell (p := ⟨w.heap.size + 1 + 1, 0, none⟩) (by show w.heap.size + 1 + 1 < Wk.heap.size; omega) (by show ¬ (w.heap.size + 1 + 1 = w.heap.size + 1 + 1 + 1 ∨ w.heap.size + 1 + 1 = w.heap.size + 1); omega)).trans hc0.2.2)
  have b0 : w4.cell? ⟨w3.heap.size, 0, none⟩ = some (.iface 35 (.pointer (some ⟨w.heap.size + 1, 0, none⟩))) := by rw [hw4]; go_simp
  have b1 : w4.cell? ⟨w3.heap.size, 1, none⟩ = some (.slice (some ⟨pb, 0, none⟩) B B) := by rw [hw4]; go_simp
  have b2 : w4.cell? ⟨w3.heap.size, 2, none⟩ = some (.slice (some ⟨pb, B, none⟩) B B) := by rw [hw4]; go_simp
  clear hcp' hmk
  have hta := assert35
  have hpq := ptr_neq (w.heap.size + 1)
  have hcv := Lib.run_convert_string_bytes (P := Yba.prog) w4 9 22 5 t Yba.underlying9 Yba.underlying22 Yba.underlying5
  obtain ⟨w5, hw5⟩ : ∃ w5, w5 = Lib.bytesWorld w4 5 t := ⟨_, rfl⟩
  have k5 : Kept (fun _ => False) w4 w5 := by rw [hw5]; exact Kept.bytes _ _ _ _
  have hL5 := hfacts w5 ((k4.trans k5).mono fun _ _ h => h.elim)
  have l2 := hL5.c2
  have l3 := hL5.c3
  have l4 := hL5.c4
  have v5 : w5.cell? ⟨w.heap.size + 1 + 1, 0, none⟩ = some (.pointer (some ⟨w.heap.size + 1, 0, none⟩)) := (k5.cell (p := ⟨w.heap.size + 1 + 1, 0, none⟩) (by show w.heap.size + 1 + 1 < w4.heap.size; omega) id).trans v4
  have b15 : w5.cell? ⟨w3.heap.size, 1, none⟩ = some (.slice (some ⟨pb, 0, none⟩) B B) := (k5.cell (p := ⟨w3.heap.size, 1, none⟩) (by show w3.heap.size < w4.heap.size; omega) id).trans b1
  have b25 : w5.cell? ⟨w3.heap.size, 2, none⟩ = some (.slice (some ⟨pb, B, none⟩) B B) := (k5.cell (p := ⟨w3.heap.size, 2, none⟩) (by show w3.heap.size < w4.heap.size; omega) id).trans b2
  have hbel : Below w.heap.size w w5 := (((hb1.trans (kk.below (fun _ h => h.elim) (by omega))).trans (k3.below (fun k h => by omega) (by omega))).trans (k4.below (fun _ h => h.elim) (by omega))).trans (k5.below (fun _ h => h.elim) (by omega))
  have hK5 : ∀ j, j < t.size → w5.cell? ⟨w3.heap.size + 1, j, none⟩ = some (.int .u8 (byteAt t j)) := fun j hj => by rw [hw5, ← z4]; exact Lib.bytesWorld_cell w4 5 t j hj
  have hd4 : ∀ j, j < B → w5.cell? ⟨w.heap.size, j, none⟩ = some (.int .u8 (Z j)) := fun j hj => by
    have := (((k4.trans k5).cell (p := ⟨w.heap.size, 0 + j, none⟩) (by show w.heap.size < w3.heap.size; omega) id).trans (k3.cell (p := ⟨w.heap.size, 0 + j, none⟩) (by show w.heap.size < Wk.heap.size; omega) (by show ¬ (w.heap.size = w.heap.size + 1 + 1 + 1 ∨ w.heap.size = w.heap.size + 1); omega))).trans (hh.d j hj)
    rwa [Nat.zero_add] at this
  have hg4 : ∀ j, j < B → ∃ b off, a = some ⟨b, off, none⟩ ∧ w5.cell? ⟨b, off + j, none⟩ = some (.int .u8 (Z j)) := fun j hj => by
    rcases h with h | ⟨b, off, rfl, hb, hc⟩
    · omega
    · exact ⟨b, off, rfl, (hbel.cell (p := ⟨b, off + j, none⟩) hb).trans (hc j (by omega))⟩
  have hlo : ∀ i, i < B → w5.cell? ⟨pb, i, none⟩ = some (.int .u8 (bits .xor .u8 (if i < t.size then byteAt t i else 0) 54)) := fun i hi => by
    have := hL5.row.cell i (by omega)
    rw [Nat.zero_add] at this
    rw [this]; simp [padTo, hi]
  have hhi : ∀ i, i < B → w5.cell? ⟨pb, B + i, none⟩ = some (.int .u8 (bits .xor .u8 (if i < t.size then byteAt t i else 0) 92)) := fun i hi => by
    have := hL5.row.cell (B + i) (by omega)
    rw [Nat.zero_add] at this
    rw [this]; simp [padTo, hi, show ¬ (B + i < B) by omega]
  rw [← hw5] at hcv
  clear hL hL5 hh hb1 hd1 kk hWk k3 k4 k5 h hfacts cc3 hc0 hw5
  have z4' := z4
  rw [z4] at hcv
  subst hw4
  go_wp2_with fail
  go_loop [17] (fun i => ∃ n : Nat, n ≤ B ∧ i = .int .i64 n) (fun i => B - (intOf i).toNat)
  case atStart => exact ⟨0, Nat.zero_le _, rfl⟩
  case round =>
    obtain ⟨n, hn, rfl⟩ := hrel
    by_cases hnB : n < B
    · have e0 := hlo n hnB
      have e1 := hhi n hnB
      by_cases hnl : n < t.size
      · have e2 := hK5 n hnl
        rw [if_pos hnl] at e0 e1
        clear hlo hhi hd4 hg4 hK5
        go_wp2_with fail
        go_round
        case rel => exact ⟨n + 1, by omega, by go_num⟩
        case measure => simp [intOf]; omega
      · rw [if_neg hnl] at e0 e1
        clear hlo hhi hd4 hg4 hK5
        go_wp2_with fail
        go_round
        case rel => exact ⟨n + 1, by omega, by go_num⟩
        case measure => simp [intOf]; omega
    · obtain rfl : B = n := by omega
      go_wp2_with fail
      go_loopw [19] (fun i wr => ∃ m q : Nat, m ≤ B ∧ i = .int .i64 m ∧ wr = w5.drewN q) (fun i _ => B - (intOf i).toNat)
      case atStart => exact ⟨0, 0, Nat.zero_le _, rfl, rfl⟩
      case round =>
        obtain ⟨m, q, hm, rfl, rfl⟩ := hrel
        by_cases hlt : m < B
        · obtain ⟨b, off, rfl, c1⟩ := hg4 m hlt
          have c0 := hd4 m hlt
          have hlt' : (m : Int) < (B : Int) := by omega
          have h0' : (0 : Int) ≤ (m : Int) := by omega
          go_wp2_with fail
          go_quiet (fail)
          go_wp2
          go_roundw
          case rel => exact ⟨m + 1, q + nq, by omega, by go_num, by simp [World.drewN]⟩
          case measure => simp [intOf]; omega
        · go_wp2_with fail
          go_ret
          exact ⟨rfl, below_drewN hbel q⟩

set_option maxRecDepth 100000 in
theorem pads_much (k : Int) (a : Option Addr) (len cap : Nat) (t : ByteArray) (w : World) (hm : ¬ (len ≤ 4096 ∧ t.size ≤ 4096)) :
    Calls Yba.prog 5 #[.int .u8 k, .slice a len cap, .string t] w fun e w' => e = .returned (.bool true) ∧ Below w.heap.size w w' := by
  by_cases ht : 4096 < t.size
  · have ht3 : decide (4096 < (t.size : Int)) = true := by simp; omega
    go_enter Yba.func5, Yba.ntmps5
    go_wp2_with fail
    go_ret
    exact ⟨rfl, Below.refl _ _⟩
  · have ht3 : decide (4096 < (t.size : Int)) = false := by simp; omega
    have hl3 : decide (4096 < (len : Int)) = true := by simp; omega
    go_enter Yba.func5, Yba.ntmps5
    go_wp2_with fail
    go_ret
    exact ⟨rfl, Below.refl _ _⟩

theorem pads_all (k : Int) (a : Option Addr) (len cap : Nat) (Z : Nat → Int) (t : ByteArray) (w : World) (hk : 0 ≤ k ∧ k ≤ 255) (h : IsDig w a len Z) :
    Calls Yba.prog 5 #[.int .u8 k, .slice a len cap, .string t] w fun e w' => e = .returned (.bool true) ∧ Below w.heap.size w w' := by
  by_cases hm : len ≤ 4096 ∧ t.size ≤ 4096
  · obtain ⟨B, hB⟩ : ∃ B : Nat, k % 64 + 1 = (B : Int) := ⟨(k % 64 + 1).toNat, by omega⟩
    by_cases ht : t.size ≤ B
    · by_cases hl : len ≤ B
      · exact pads_short_small k a len cap B Z t w hk hB hm.1 ht hm.2 h hl
      · exact pads_short_big k a len cap B Z t w hk hB hm.1 ht hm.2 h (by omega)
    · by_cases hl : len ≤ B
      · exact pads_long_small k a len cap B Z t w hk hB hm.1 (by omega) hm.2 h hl
      · exact pads_long_big k a len cap B Z t w hk hB hm.1 (by omega) hm.2 h (by omega)
  · exact pads_much k a len cap t w hm
end Go.Proofs.Ybulkcvda
