/-
  LawS4807AFloat: the walk of the law over the contract of add.
-/
import Derived.Test.YbulkcunkFloats
import Derived.LoopTactic
import Derived.Deep.LoopGhost
namespace Go.Proofs.Ybulkcunk
open Go.RowKit Go.Maps
open Go.MuLone

theorem cntF_nan (f : Nat → Nat) {k : Nat} (h : feq k k = false) (n : Nat) : cntF f k n = 0 := by
  rcases Nat.eq_zero_or_pos (cntF f k n) with h0 | h0
  · exact h0
  obtain ⟨j, _, hq⟩ := cntF_pos f k n (by omega)
  rw [feq_self (feq_symm hq)] at h
  cases h

theorem beq_zero_succ (a : Nat) : ((a + 1 : Nat) == 0) = false := by simp

set_option maxHeartbeats 1000000 in
theorem float_some (b off len cap : Nat) (f : Nat → Nat) (w : World) (hlen : len ≤ 1024) (hb : b < w.heap.size)
    (hc : ∀ i, i < len → w.cell? ⟨b, off + i, none⟩ = some (.float .f64 (f i))) :
    Calls Yba.prog 4 #[.slice (some ⟨b, off, none⟩) len cap] w fun e w' => e = .returned (.bool true) ∧ Below w.heap.size w w' := by
  have hd : decide (1024 < (len : Int)) = false := by simp; omega
  go_enter Yba.func4, Yba.ntmps4
  go_wp2
  go_loopw [4, 5] (fun d i wr => ∃ n : Nat, n ≤ len ∧ i = .int .i64 n ∧ d = .int .i64 (distF f n) ∧ Ff wr w.heap.size f n ∧ Below w.heap.size w wr ∧ w.heap.size < wr.heap.size) (fun _ i _ => len - (intOf i).toNat)
  case atStart =>
    refine ⟨0, Nat.zero_le _, rfl, rfl, ⟨by go_simp, by go_simp, by go_simp, .inl ⟨by go_simp, Inv.zero f⟩⟩, (Below.refl _ _).alloc (Nat.le_refl _) _, by simp⟩
  case round =>
    obtain ⟨n, hn, rfl, rfl, hff, hbel, hsz⟩ := hrel
    have hdl := distF_le f n
    by_cases hlt : n < len
    · have c1 : wr.cell? ⟨b, off + n, none⟩ = some (.float .f64 (f n)) := (hbel.cell hb).trans (hc n hlt)
      have hcl := cntF_le f (f n) n
      go_wp2_with fail
      go_loop [7, 8, 9] (fun t s j => ∃ m : Nat, m ≤ n ∧ t = .int .i64 ((cntF f (f n) m : Int) + 1) ∧ s = .bool (cntF f (f n) m == 0) ∧ j = .int .i64 m) (fun _ _ j => n - (intOf j).toNat)
      case atStart => exact ⟨0, Nat.zero_le _, rfl, rfl, rfl⟩
      case round =>
        obtain ⟨m, hm, rfl, rfl, rfl⟩ := hrel
        have hml := cntF_le f (f n) m
        by_cases hmn : m < n
        · have d1 : wr.cell? ⟨b, off + m, none⟩ = some (.float .f64 (f m)) := (hbel.cell hb).trans (hc m (by omega))
          by_cases hq : feq (f m) (f n) = true
          · have hq' : (FloatKind.f64.format.order (f m) (f n) == some .eq) = true := hq
            have HC : Hid (cntF f (f n) (m + 1) = cntF f (f n) m + 1) := by unfold Hid; simp [cntF, hq]
            clear hq
            go_wp2_with fail
            go_round
            case rel => exact ⟨m + 1, by omega, by rw [HC.out]; go_num, by rw [HC.out, beq_zero_succ], by go_num⟩
            case measure => simp [intOf]; omega
          · have hqf : feq (f m) (f n) = false := by simpa using hq
            have hq' : (FloatKind.f64.format.order (f m) (f n) == some .eq) = false := hqf
            have HC : Hid (cntF f (f n) (m + 1) = cntF f (f n) m) := by unfold Hid; simp [cntF, hqf]
            clear hq hqf
            go_wp2_with fail
            go_round
            case rel => exact ⟨m + 1, by omega, by rw [HC.out], by rw [HC.out], by go_num⟩
            case measure => simp [intOf]; omega
        · obtain rfl : m = n := by omega
          by_cases hk : feq (f m) (f m) = true
          · have hk' : (FloatKind.f64.format.order (f m) (f m) == some .eq) = true := hk
            have HD : Hid (distF f (m + 1) = distF f m + if cntF f (f m) m == 0 then 1 else 0) := by unfold Hid; simp [distF, hk]
            have hsz' : ∀ w2 : World, Below w.heap.size wr w2 → w.heap.size < w2.heap.size := fun w2 hb2 => Nat.lt_of_lt_of_le hsz hb2.size
            cases h0 : (cntF f (f m) m == 0)
            · go_wp2_with fail
              refine (addF_any _ f m wr hff hsz hk (by omega)).mono ?_
              rintro e w1 ⟨rfl, hff1, hbel1⟩
              go_wp2
              go_roundw
              case rel => exact ⟨m + 1, by omega, by go_num, by rw [HD.out, h0]; rfl, hff1, hbel.trans hbel1, hsz' _ hbel1⟩
              case measure => simp [intOf]; omega
            · go_wp2_with fail
              refine (addF_any _ f m wr hff hsz hk (by omega)).mono ?_
              rintro e w1 ⟨rfl, hff1, hbel1⟩
              go_wp2
              go_roundw
              case rel => exact ⟨m + 1, by omega, by go_num, by rw [HD.out, h0]; go_num, hff1, hbel.trans hbel1, hsz' _ hbel1⟩
              case measure => simp [intOf]; omega
          · have hkf : feq (f m) (f m) = false := by simpa using hk
            have hk' : (FloatKind.f64.format.order (f m) (f m) == some .eq) = false := hkf
            have HD : Hid (distF f (m + 1) = distF f m) := by unfold Hid; simp [distF, hkf]
            have h0 : cntF f (f m) m = 0 := cntF_nan f hkf m
            go_wp2_with fail
            refine (addF_nan _ (f m) wr hkf).mono ?_
            rintro e w1 ⟨rfl, rfl⟩
            go_wp2
            go_roundw
            case rel => exact ⟨m + 1, by omega, by go_num, by rw [HD.out], hff.nan hkf, hbel, hsz⟩
            case measure => simp [intOf]; omega
    · obtain rfl : n = len := by omega
      rcases hff.m with ⟨hc2, hI⟩ | ⟨bm, l, hc2, hlt2, hown, hI⟩
      · have hl := fun ty => Maps.len_nil (w := wr) Yba.underlying42 ty
        have h0 : distF f n = 0 := by rw [← hI.len]; rfl
        go_wp2
        go_ret
        exact ⟨rfl, hbel⟩
      · have hl := hown.len
        have h0 : l.length = distF f n := hI.len
        go_wp2
        go_ret
        exact ⟨by simp, hbel⟩

/-- No key at all (a nil slice, too). -/
theorem float_none (a : Option Addr) (cap : Nat) (w : World) :
    Calls Yba.prog 4 #[.slice a (0 : Nat) cap] w fun e w' => e = .returned (.bool true) ∧ Below w.heap.size w w' := by
  have hl := fun w ty => Maps.len_nil (w := w) Yba.underlying42 ty
  go_enter Yba.func4, Yba.ntmps4
  go_wp2
  refine wp_loop_rounds 1 ?_
  rw [rounds_succ]
  go_wp2
  go_ret
  exact ⟨rfl, (Below.refl _ _).alloc (Nat.le_refl _) _⟩

theorem float_long (a : Option Addr) (len cap : Nat) (w : World) (hlen : ¬ len ≤ 1024) (hm : len ≤ maxLen) :
    Calls Yba.prog 4 #[.slice a len cap] w fun e w' => e = .returned (.bool true) ∧ Below w.heap.size w w' := by
  unfold maxLen at hm
  have hd : decide (1024 < (len : Int)) = true := by simp; omega
  go_enter Yba.func4, Yba.ntmps4
  go_wp2
  go_ret
  exact ⟨rfl, Below.refl _ _⟩
end Go.Proofs.Ybulkcunk
