/-
  LawS4807AScript: the walk of the law over the contracts of forget, count and add; 'back': how often a key was added since it was last forgotten.
-/
import Derived.Test.YbulkcunkInts
import Derived.LoopTactic
import Derived.Deep.LoopGhost
namespace Go.Proofs.Ybulkcunk
open Go.RowKit Go.Maps
open Go.MuLone

/-- How often k was added since it was last forgotten, before step j. -/
def back (o kk : Nat → Int) (k : Int) : Nat → Int
  | 0 => 0
  | j + 1 => if kk j = k then (if o j % 4 = 0 then 0 else back o kk k j + 1) else back o kk k j

theorem back_bd (o kk : Nat → Int) (k : Int) : ∀ j, 0 ≤ back o kk k j ∧ back o kk k j ≤ j
  | 0 => by simp [back]
  | j + 1 => by have := back_bd o kk k j; unfold back; split <;> (try split) <;> omega

theorem ret_int {k : IntKind} {a b : Int} (h : a = b) : Ending.returned (.int k a) = .returned (.int k b) := by rw [h]

theorem Fc.mono {w : World} {sb n m : Nat} {F : Int → Int} (h : Fc w sb n F) (hm : n ≤ m) : Fc w sb m F :=
  ⟨h.c0, h.f0, h.f2, h.m.imp id fun ⟨bm, D, hc, hlt, hown, hF⟩ => ⟨bm, D, hc, hlt, hown.mono hm, hF⟩⟩

set_option maxHeartbeats 1000000 in
theorem script_some (b off len cap : Nat) (o kk : Nat → Int) (w : World) (hlen : len ≤ 1024) (hb : b < w.heap.size)
    (ho : ∀ i, i < len → w.cell? ⟨b, off + i * 2, none⟩ = some (.int .u8 (o i))) (hk : ∀ i, i < len → w.cell? ⟨b, off + i * 2 + 1, none⟩ = some (.int .i8 (kk i)))
    (ob : ∀ i, i < len → 0 ≤ o i ∧ o i ≤ 255) (kb : ∀ i, i < len → -128 ≤ kk i ∧ kk i ≤ 127) :
    Calls Yba.prog 3 #[.slice (some ⟨b, off, none⟩) len cap] w fun e w' => e = .returned (.bool true) ∧ Below w.heap.size w w' := by
  have hd : decide (1024 < (len : Int)) = false := by simp; omega
  go_enter Yba.func3, Yba.ntmps3
  go_wp2
  go_loopw [4] (fun i wr => ∃ n : Nat, n ≤ len ∧ i = .int .i64 n ∧ Fc wr w.heap.size n (fun x => back o kk x n) ∧ Below w.heap.size w wr ∧ w.heap.size < wr.heap.size) (fun i _ => len - (intOf i).toNat)
  case atStart =>
    refine ⟨0, Nat.zero_le _, rfl, ⟨by go_simp, by go_simp, by go_simp, .inl ⟨by go_simp, fun _ => rfl⟩⟩, (Below.refl _ _).alloc (Nat.le_refl _) _, by simp⟩
  case round =>
    obtain ⟨n, hn, rfl, hfc, hbel, hsz⟩ := hrel
    by_cases hlt : n < len
    · have c1 : wr.cell? ⟨b, off + n * 2 + 1, none⟩ = some (.int .i8 (kk n)) := (hbel.cell hb).trans (hk n hlt)
      have c0 : wr.cell? ⟨b, off + n * 2, none⟩ = some (.int .u8 (o n)) := (hbel.cell hb).trans (ho n hlt)
      have hob := ob n hlt
      have hkb := kb n hlt
      have hkw : (Lit.int .i64 (kk n)).wf = true := WalkArith.wf_i64 (by omega)
      by_cases h4 : (o n % 4 == 0) = true
      · have HB : Hid ((fun x => back o kk x (n + 1)) = fun x => if x = kk n then 0 else back o kk x n) := by
          funext x
          simp only [back]
          by_cases e : kk n = x
          · rw [if_pos e, if_pos (by simpa using h4), if_pos e.symm]
          · rw [if_neg e, if_neg (Ne.symm e)]
        go_wp2_with fail
        refine (forget_any _ n _ (kk n) wr hfc hsz hkw).mono ?_
        rintro e w1 ⟨rfl, hfc1, hbel1⟩
        go_wp2_with fail
        refine (count_any _ n _ (kk n) w1 hfc1 hkw).mono ?_
        rintro e w2 ⟨rfl, hfc2, hbel2⟩
        go_wp2
        go_roundw
        case rel => exact ⟨n + 1, by omega, by go_num, by rw [HB.out]; exact hfc2.mono (Nat.le_succ _), (hbel.trans hbel1).trans hbel2, by have := hbel1.size; have := hbel2.size; omega⟩
        case measure => simp [intOf]; omega
      · have h4' : (o n % 4 == 0) = false := by simpa using h4
        clear h4
        have HB : Hid ((fun x => back o kk x (n + 1)) = fun x => if x = kk n then back o kk (kk n) n + 1 else back o kk x n) := by
          funext x
          simp only [back]
          by_cases e : kk n = x
          · subst e
            rw [if_pos rfl, if_neg (by simpa using h4'), if_pos rfl]
          · rw [if_neg e, if_neg (Ne.symm e)]
        have bd := back_bd o kk (kk n) n
        go_wp2_with fail
        go_loop [6, 7] (fun t j => ∃ (m : Nat) (v : Int), m ≤ n ∧ 1 ≤ v ∧ v ≤ n + 1 - m ∧ t = .int .i64 v ∧ j = .int .i64 (m - 1 : Int) ∧ Hid (back o kk (kk n) n + 1 = v + back o kk (kk n) m)) (fun _ j => (intOf j + 1).toNat)
        case atStart => exact ⟨n, 1, Nat.le_refl _, by omega, by omega, rfl, rfl, by unfold Hid; omega⟩
        case round =>
          obtain ⟨m, v, hm, hv1, hv2, rfl, rfl, HV⟩ := hrel
          by_cases hm0 : m = 0
          · subst hm0
            have hv : back o kk (kk n) n + 1 = v := by have := HV.out; simp only [back] at this; omega
            go_wp2_with fail
            refine (add_any _ n _ (kk n) wr hfc hsz (by omega) hkw bd.1 (by omega)).mono ?_
            rintro e w1 ⟨he, hfc1, hbel1⟩
            replace he : e = .returned (.int .i64 v) := he.trans (ret_int hv)
            subst he
            go_wp2_with fail
            refine (count_any _ (n + 1) _ (kk n) w1 hfc1 hkw).mono ?_
            rintro e w2 ⟨he, hfc2, hbel2⟩
            replace he : e = .returned (.int .i64 v) := he.trans (ret_int (by simp only [if_true]; exact hv))
            subst he
            go_wp2
            go_roundw
            case rel => exact ⟨n + 1, by omega, by go_num, by rw [HB.out]; exact hfc2, (hbel.trans hbel1).trans hbel2, by have := hbel1.size; have := hbel2.size; omega⟩
            case measure => simp [intOf]; omega
          · obtain ⟨j, rfl⟩ : ∃ j, m = j + 1 := ⟨m - 1, by omega⟩
            have d1 : wr.cell? ⟨b, off + j * 2 + 1, none⟩ = some (.int .i8 (kk j)) := (hbel.cell hb).trans (hk j (by omega))
            have d0 : wr.cell? ⟨b, off + j * 2, none⟩ = some (.int .u8 (o j)) := (hbel.cell hb).trans (ho j (by omega))
            have hobj := ob j (by omega)
            have hkbj := kb j (by omega)
            go_wp2_with fail
            · go_round
              case rel =>
                refine ⟨j, v, by omega, hv1, by omega, rfl, by go_num, ?_⟩
                have hne : kk j ≠ kk n := by simpa using ‹(kk j != kk n) = true›
                have := HV.out
                simp only [back, if_neg hne] at this
                exact this
              case measure => simp [intOf]
            · have hne : kk j = kk n := by simpa using ‹(kk j != kk n) = false›
              have h40 : o j % 4 = 0 := by simpa using ‹(o j % 4 == 0) = true›
              have hv : back o kk (kk n) n + 1 = v := by
                have := HV.out
                simp only [back, if_pos hne, if_pos h40] at this
                omega
              have HN : Hid (kk j = kk n) := hne
              clear hne h40
              refine (add_any _ n _ (kk n) wr hfc hsz (by omega) hkw bd.1 (by omega)).mono ?_
              rintro e w1 ⟨he, hfc1, hbel1⟩
              replace he : e = .returned (.int .i64 v) := he.trans (ret_int hv)
              subst he
              go_wp2_with fail
              refine (count_any _ (n + 1) _ (kk n) w1 hfc1 hkw).mono ?_
              rintro e w2 ⟨he, hfc2, hbel2⟩
              replace he : e = .returned (.int .i64 v) := he.trans (ret_int (by simp only [if_true]; exact hv))
              subst he
              go_wp2
              go_roundw
              case rel => exact ⟨n + 1, by omega, by go_num, by rw [HB.out]; exact hfc2, (hbel.trans hbel1).trans hbel2, by have := hbel1.size; have := hbel2.size; omega⟩
              case measure => simp [intOf]; omega
            · go_round
              case rel =>
                refine ⟨j, v + 1, by omega, by omega, by omega, rfl, by go_num, ?_⟩
                have hne : kk j = kk n := by simpa using ‹(kk j != kk n) = false›
                have h40 : ¬ o j % 4 = 0 := by simpa using ‹(o j % 4 == 0) = false›
                have := HV.out
                simp only [back, if_pos hne, if_neg h40] at this
                unfold Hid
                omega
              case measure => simp [intOf]
    · go_wp2
      go_ret
      exact ⟨rfl, hbel⟩

/-- No step at all (a nil slice, too). -/
theorem script_none (a : Option Addr) (cap : Nat) (w : World) :
    Calls Yba.prog 3 #[.slice a (0 : Nat) cap] w fun e w' => e = .returned (.bool true) ∧ Below w.heap.size w w' := by
  go_enter Yba.func3, Yba.ntmps3
  go_wp2
  refine wp_loop_rounds 1 ?_
  rw [rounds_succ]
  go_wp2
  go_ret
  exact ⟨rfl, (Below.refl _ _).alloc (Nat.le_refl _) _⟩

theorem script_long (a : Option Addr) (len cap : Nat) (w : World) (hlen : ¬ len ≤ 1024) (hm : len ≤ maxLen) :
    Calls Yba.prog 3 #[.slice a len cap] w fun e w' => e = .returned (.bool true) ∧ Below w.heap.size w w' := by
  unfold maxLen at hm
  have hd : decide (1024 < (len : Int)) = true := by simp; omega
  go_enter Yba.func3, Yba.ntmps3
  go_wp2
  go_ret
  exact ⟨rfl, Below.refl _ _⟩
end Go.Proofs.Ybulkcunk
