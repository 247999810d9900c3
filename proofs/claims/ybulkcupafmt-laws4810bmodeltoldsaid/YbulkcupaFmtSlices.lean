/- By an AI agent. No person has read it.
   slices.Clone (function 8), slices.Equal (function 10) on octets. -/
import Derived.Test.YbulkcupaFmtRai
namespace Go.Proofs.YbulkcupaFmt
open Go.RowKit Go.Extern.Stop Go.Stop Go.Extern

/-- What slices.Clone leaves. -/
def Cloned (n : Nat) (R : Nat → Nat) (w : World) (e : Ending) (w' : World) : Prop :=
  ∃ g2 cap2, e = .returned (.slice (some ⟨g2, 0, none⟩) n cap2) ∧ n ≤ cap2 ∧ w.heap.size ≤ g2 ∧ Pdu w' g2 n R ∧ Below w.heap.size w w'

set_option maxRecDepth 100000 in
theorem clone_any (g n cap : Nat) (R : Nat → Nat) (w : World) (hp : Pdu w g n R) : Calls Ybaf.prog 8 #[.slice (some ⟨g, 0, none⟩) n cap] w (Cloned n R w) := by
  have bA : Below w.heap.size w (w.alloc (.cells #[] 5)) := by go_grown
  have kA : Kept (fun _ => False) w (w.alloc (.cells #[] 5)) := (Kept.refl _ w).alloc _
  have hl := hp.len
  have hpA := hp.kept kA id
  have hrow : Row (w.alloc (.cells #[] 5)) w.heap.size 0 0 (fun _ => 0) := ⟨fun j hj => by omega, fun j hj => by omega⟩
  obtain ⟨g', cap', w2, R', hap, hcap', hg', hlt, kk, row, _, hR⟩ := append30_any 30 w.heap.size 0 0 (some ⟨g, 0, none⟩) n cap (fun _ => 0) (fun j => (R j : Int)) (w.alloc (.cells #[] 5)) hrow (by simp) (Nat.le_refl _) (.inr ⟨g, 0, rfl, fun j hj => by rw [Nat.zero_add]; exact hpA.cell j hj⟩) (by omega)
  rw [Nat.zero_add] at hap hcap'
  have hfin : Cloned n R w (.returned (.slice (some ⟨g', 0, none⟩) n cap')) w2 := by
    refine ⟨g', cap', rfl, hcap', ?_, ⟨hlt, fun j hj => ?_, hp.byte, hp.len⟩, bA.trans (kk.below (fun k h => by omega) (by simp))⟩
    · rcases hg' with rfl | rfl
      · exact Nat.le_refl _
      · simp
    · have := row.cell j (by omega)
      rw [Nat.zero_add] at this
      rw [this, hR j (by omega) (by omega)]
      simp
  have he : (binOp .eql 30 (.slice (some ⟨g, 0, none⟩) n cap) (.slice none 0 0)).run Ybaf.prog w = .ok (.bool false) w := rfl
  clear hrow hpA kA bA hg' hlt kk row hR
  go_enter Ybaf.func8, Ybaf.ntmps8
  go_wp2_with (at_builtin; go_must (refine Lib.wpList_append_run _ rfl _ _ 30 30 rfl _ _ rfl rfl _ _ hap ?_))
  go_returns
  all_goals first | exact hfin | skip

/-- slices.Equal of two rows that hold the same. -/
theorem equal_same (g1 g2 n c1 c2 : Nat) (R : Nat → Nat) (w : World) (h1 : Pdu w g1 n R) (h2 : Pdu w g2 n R) :
    Calls Ybaf.prog 10 #[.slice (some ⟨g1, 0, none⟩) n c1, .slice (some ⟨g2, 0, none⟩) n c2] w fun e w' => e = .returned (.bool true) ∧ ∃ q, w' = w.drewN q := by
  have hl := h1.len
  have H1 : Hid (∀ j, j < n → w.cell? ⟨g1, j, none⟩ = some (.int .u8 (R j : Int))) := h1.cell
  have H2 : Hid (∀ j, j < n → w.cell? ⟨g2, j, none⟩ = some (.int .u8 (R j : Int))) := h2.cell
  clear h1 h2
  go_enter Ybaf.func10, Ybaf.ntmps10
  go_wp2_with fail
  go_loopw [13] (fun i wr => ∃ m q : Nat, m ≤ n ∧ i = .int .i64 m ∧ wr = w.drewN q) (fun i _ => n - (intOf i).toNat)
  case atStart => exact ⟨0, 0, by omega, rfl, rfl⟩
  case round =>
    obtain ⟨m, q, hm, rfl, rfl⟩ := hrel
    by_cases hlt : m < n
    · have d1 : w.cell? ⟨g1, m, none⟩ = some (.int .u8 (R m : Int)) := H1.out m hlt
      have d2 : w.cell? ⟨g2, m, none⟩ = some (.int .u8 (R m : Int)) := H2.out m hlt
      go_wp2_with fail
      go_region
      all_goals (go_wp2_with fail)
      all_goals
        go_roundw
        case rel => exact ⟨m + 1, q + 1, by omega, by go_num, rfl⟩
        case measure => simp [intOf]; omega
    · obtain rfl : m = n := by omega
      go_wp2_with fail
      go_returns
      all_goals exact ⟨rfl, q, rfl⟩
end Go.Proofs.YbulkcupaFmt
