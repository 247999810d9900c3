/-
  'append' onto a row of bytes of the call's own, with room and without: what it leaves, as rows ('Row').
-/
import Derived.Test.YbulkcupaFmtRead
import Derived.Laws.IdiomStrings
import Derived.Deep.OwnRows
import Derived.Deep.AppendSrc
import Derived.Deep.Upon
import Derived.Lib.AppendZeros
import Derived.Lib.SliceRun
import Derived.Lib.LazyBuf
import Derived.Laws.BytesArg
import Derived.Deep.RegionWith
import Derived.Deep.LoopGhost
namespace Go.Proofs.YbulkcupaFmt
open Go.RowKit Go.Extern.Stop Go.Stop Go.Extern

theorem info5 : (Ybaf.prog.info? 5).map (fun i => (i.zero, i.size, i.bytes)) = some (some (.int .u8 0), 1, 1) := by kernel_rfl

/-- A slice that is read: it has no element; or it leads to the bytes Y. -/
def Source (w : World) (a : Option Addr) (m : Nat) (Y : Nat → Int) : Prop := m = 0 ∨ ∃ h oh, a = some ⟨h, oh, none⟩ ∧ ∀ j, j < m → w.cell? ⟨h, oh + j, none⟩ = some (.int .u8 (Y j))

/-- 'append(x, y...)' where x has no room: a new row. -/
theorem append30_grow (ty g n c h oh m c2 : Nat) (X Y : Nat → Int) (w : World) (hX : ∀ j, j < n → w.cell? ⟨g, j, none⟩ = some (.int .u8 (X j))) (hY : ∀ j, j < m → w.cell? ⟨h, oh + j, none⟩ = some (.int .u8 (Y j))) (hc : c < n + m) (hnm : n + m ≤ 1000000) :
    ∃ cap w1, (Builtin.append_ #[30, 30] ty #[.slice (some ⟨g, 0, none⟩) n c, .slice (some ⟨h, oh, none⟩) m c2]).run Ybaf.prog w = .ok (.slice (some ⟨w.heap.size, 0, none⟩) (n + m) cap) w1 ∧ n + m ≤ cap ∧ w1.heap.size = w.heap.size + 1 ∧ Below w.heap.size w w1 ∧
      Row w1 w.heap.size 0 cap (fun j => if j < n then X j else if j < n + m then Y (j - n) else 0) := by
  obtain ⟨i, hi, hz⟩ := Option.map_eq_some_iff.1 info5
  simp only [Prod.mk.injEq] at hz
  obtain ⟨hz, hs, hby⟩ := hz
  have hr := run_append_grow (P := Ybaf.prog) w 30 ty 5 i (.int .u8 0) Ybaf.underlying30 hi hz ⟨g, 0, none⟩ n c (bytes n X) (by rw [bytes_length, hs, Nat.mul_one]) (fun j v hv => by
    obtain ⟨hj, rfl⟩ := bytes_get hv
    rw [WideShapes.add_plain, Nat.zero_add]
    exact hX j hj) ⟨h, oh, none⟩ m c2 (bytes m Y) (by rw [bytes_length, hs, Nat.mul_one]) (fun j v hv => by
    obtain ⟨hj, rfl⟩ := bytes_get hv
    rw [WideShapes.add_plain]
    exact hY j hj) hc (by omega) (growslice_fits hc (by rw [hby]; omega))
  have hge := grownCap_ge w (n + m) c 5
  refine ⟨_, _, hr, hge, by simp, ((Below.refl _ w).drew).alloc (Nat.le_refl _) _, ?_⟩
  have hg' : ∀ o : Array Value, (w.drew.alloc (.cells o 5)).heap[w.heap.size]? = some (.cells o 5 (0, 0)) := fun o => (MapKept.heap_alloc w.drew _).1
  refine ⟨fun j hj => ?_, fun j _ => ?_⟩
  · simp only [World.cell?, hg', Nat.zero_add]
    have hsz : ((bytes n X).toArray ++ (bytes m Y).toArray).size = n + m := by simp [bytes]
    by_cases h1 : j < n
    · rw [Array.getElem?_append_left (by omega), Array.getElem?_append_left (by simp [bytes]; omega)]
      simp [bytes, h1]
    · by_cases h2 : j < n + m
      · rw [Array.getElem?_append_left (by omega), Array.getElem?_append_right (by simp [bytes]; omega)]
        have h3 : j - n < m := by omega
        simp [bytes, h1, h2, h3]
      · rw [Array.getElem?_append_right (by omega), hsz]
        have h3 : j - (n + m) < grownCap w (n + m) c 5 - (n + m) := by omega
        simp [Builtin.zeroCells, Value.cells, h1, h2, h3, Nat.mod_one]
  · simp only [World.frozen?, hg']
    simp

/-- .. where it has room. -/
theorem append30_room (ty g n c h oh m c2 : Nat) (R Y : Nat → Int) (w : World) (hX : Row w g 0 c R) (hY : ∀ j, j < m → w.cell? ⟨h, oh + j, none⟩ = some (.int .u8 (Y j))) (hc : n + m ≤ c) :
    ∃ w1, (Builtin.append_ #[30, 30] ty #[.slice (some ⟨g, 0, none⟩) n c, .slice (some ⟨h, oh, none⟩) m c2]).run Ybaf.prog w = .ok (.slice (some ⟨g, 0, none⟩) (n + m) c) w1 ∧ w1.heap.size = w.heap.size ∧ Kept (· = g) w w1 ∧
      Row w1 g 0 c (fun j => if n ≤ j ∧ j < n + m then Y (j - n) else R j) := by
  obtain ⟨i, hi, hz⟩ := Option.map_eq_some_iff.1 info5
  simp only [Prod.mk.injEq] at hz
  obtain ⟨hz, hs, hby⟩ := hz
  have hap := run_append_room_cells (P := Ybaf.prog) w 30 ty 5 i Ybaf.underlying30 hi g 0 n c ⟨h, oh, none⟩ m c2 (bytes m Y) (by rw [bytes_length, hs, Nat.mul_one]) (fun j v hv => by
    obtain ⟨hj, rfl⟩ := bytes_get hv
    rw [WideShapes.add_plain]
    exact hY j hj) (bytes_one m Y) hc (fun j hj => by
      rw [bytes_length] at hj
      rw [hs, Nat.mul_one, Nat.add_assoc, hX.cell (n + j) (by omega)]
      rfl) (fun j hj => by
      rw [bytes_length] at hj
      rw [hs, Nat.mul_one, Nat.add_assoc]
      exact hX.frz (n + j) (by omega))
  rw [hs, Nat.mul_one] at hap
  refine ⟨_, hap, ?_, Kept.setCells g _ _ (Kept.refl _ _) (.inl rfl), hX.stores n m Y hc⟩
  have : ∀ (vs : List Value) (o : Nat) (W : World), (W.setCells g o vs).heap.size = W.heap.size := by
    intro vs
    induction vs with
    | nil => intro o W; rfl
    | cons v vs ih => intro o W; rw [World.setCells, ih]; simp [World.setCell]
  exact this _ _ _

/-- .. either. -/
theorem append30_any (ty g n c : Nat) (a : Option Addr) (m c2 : Nat) (R Y : Nat → Int) (w : World) (hX : Row w g 0 c R) (hg : g < w.heap.size) (hn : n ≤ c) (hY : Source w a m Y) (hnm : n + m ≤ 1000000) :
    ∃ g' cap w1 R', (Builtin.append_ #[30, 30] ty #[.slice (some ⟨g, 0, none⟩) n c, .slice a m c2]).run Ybaf.prog w = .ok (.slice (some ⟨g', 0, none⟩) (n + m) cap) w1 ∧ n + m ≤ cap ∧ (g' = g ∨ g' = w.heap.size) ∧ g' < w1.heap.size ∧ Kept (· = g) w w1 ∧
      Row w1 g' 0 cap R' ∧ (∀ j, j < n → R' j = R j) ∧ ∀ j, n ≤ j → j < n + m → R' j = Y (j - n) := by
  by_cases hm : m = 0
  · subst hm
    obtain ⟨i, hi, hz⟩ := Option.map_eq_some_iff.1 info5
    have hs : Src Ybaf.prog i.size 30 (.slice a (0 : Nat) c2) 0 [] w := by
      cases a with
      | none => exact Src.ofNil w Ybaf.underlying30 c2
      | some x => exact Src.ofSlice w Ybaf.underlying30 x 0 c2 [] (by simp) (fun j u h => by simp at h) (fun _ h => by cases h)
    exact ⟨g, c, w, R, run_append_nothing w 30 30 ty 5 i Ybaf.underlying30 hi _ n c hn _ hs, by omega, .inl rfl, hg, Kept.refl _ _, hX, fun _ _ => rfl, fun j h1 h2 => by omega⟩
  · rcases hY with h0 | ⟨h, oh, rfl, hY⟩
    · exact absurd h0 hm
    · by_cases hc : n + m ≤ c
      · obtain ⟨w1, hr, hz, hk, hrow⟩ := append30_room ty g n c h oh m c2 R Y w hX hY hc
        exact ⟨g, c, w1, _, hr, hc, .inl rfl, by omega, hk, hrow, fun j hj => by simp; omega, fun j h1 h2 => by simp [h1, h2]⟩
      · obtain ⟨cap, w1, hr, hcap, hz, hb, hrow⟩ := append30_grow ty g n c h oh m c2 R Y w (fun j hj => by have := hX.cell j (by omega); rwa [Nat.zero_add] at this) hY (by omega) hnm
        exact ⟨_, cap, w1, _, hr, hcap, .inr rfl, by omega, Kept.ofBelow hb _, hrow, fun j hj => by simp [hj], fun j h1 h2 => by simp [h2, show ¬ j < n by omega]⟩
end Go.Proofs.YbulkcupaFmt
