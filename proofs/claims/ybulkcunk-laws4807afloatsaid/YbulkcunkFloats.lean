/-
  failureCounts[float64].add, by its walk, and joined over 'Ff'.
-/
import Derived.Test.YbulkcunkLocks
import Derived.Test.YbulkcunkFloatInv
import Derived.Conc.MuLone
namespace Go.Proofs.Ybulkcunk
open Go.RowKit Go.Maps
open Go.MuLone

theorem findable_f (k : Nat) (w : World) : Calls Yba.prog 12 #[.float .f64 k] w fun e w' => e = .returned (.bool (feq k k)) ∧ w = w' := by
  go_enter Yba.func12, Yba.ntmps12
  go_wp2
  go_ret
  exact ⟨rfl, rfl⟩

theorem addF_nan (a : Addr) (k : Nat) (w : World) (hk : feq k k = false) : Calls Yba.prog 8 #[.pointer (some a), .float .f64 k] w fun e w' => e = .returned (.int .i64 1) ∧ w = w' := by
  go_enter Yba.func8, Yba.ntmps8
  go_wp2_with (go_at_call 12; refine (findable_f _ _).mono ?_; rintro e w' ⟨rfl, rfl⟩)
  go_ret
  exact ⟨rfl, rfl⟩

theorem addF_map (sb bm : Nat) (l : List (Nat × Int)) (f : Nat → Nat) (n : Nat) (w : World) (hk : feq (f n) (f n) = true) (c0 : w.cell? ⟨sb, 0, none⟩ = some (.int .i32 0)) (f0 : w.frozen? ⟨sb, 0, none⟩ = false)
    (c2 : w.cell? ⟨sb, 2, none⟩ = some (.map (some bm))) (hbs : bm ≠ sb) (hown : ownsF w bm l) (hI : Inv f n l) (hn : n ≤ 1024) :
    Calls Yba.prog 8 #[.pointer (some ⟨sb, 0, none⟩), .float .f64 (f n)] w fun e w' => e = .returned (.int .i64 ((cntF f (f n) n : Int) + 1)) ∧ ∃ w1 l', ownsF w1 bm l' ∧ Inv f (n + 1) l' ∧ turnedF (w.setCell ⟨sb, 0, none⟩ (.int .i32 1)) w1 bm ∧ w' = w1.setCell ⟨sb, 0, none⟩ (.int .i32 0) := by
  have hown1 := hown.setCell (a := ⟨sb, 0, none⟩) hbs (.int .i32 1)
  have c0' : (w.setCell ⟨sb, 0, none⟩ (.int .i32 1)).cell? ⟨sb, 0, none⟩ = some (.int .i32 1) := World.cell?_setCell_same w ⟨sb, 0, none⟩ (.int .i32 1) c0
  have c2' : (w.setCell ⟨sb, 0, none⟩ (.int .i32 1)).cell? ⟨sb, 2, none⟩ = some (.map (some bm)) := (World.cell?_setCell_other w ⟨sb, 0, none⟩ ⟨sb, 2, none⟩ _ (by simp)).trans c2
  have q42 : ∀ (w : World) (r : Option Nat), (binOp .eql 42 (.map r) (.map none)).run Yba.prog w = .ok (.bool r.isNone) w := fun w r => run_eql_map_nil w _ _ _ r Yba.underlying42
  have hrun := hown1.lookup (f n)
  rw [hI.look] at hrun
  have hle := cntF_le f (f n) n
  go_enter_defers Yba.func8, Yba.ntmps8
  go_wp2_with (first
    | (go_at_call 12; refine (findable_f _ _).mono ?_; rintro e w' ⟨rfl, rfl⟩)
    | (go_at_call 9; refine (lock_free Yba.muLib ⟨sb, 0, none⟩ _ c0 f0).mono ?_; rintro e w' ⟨rfl, rfl⟩)
    | (at_mapUpdate; go_must (refine wpList_update_F _ rfl _ _ _ rfl bm l rfl hown1 (f n) _ rfl rfl ?_)
       intro w1 hturn1 hor
       obtain ⟨l', hown2, hI2⟩ : ∃ l', ownsF w1 bm l' ∧ Inv f (n + 1) l' := by
         rcases hor with ⟨h1, h2⟩ | ⟨j, p, x, h1, h2, h3, h4, h5⟩
         · exact ⟨_, h2, hI.fresh hk h1⟩
         · exact ⟨_, h5, hI.again h1 h2 h3⟩
       have hrun3 := hown2.lookup (f n)
       rw [hI2.look, show cntF f (f n) (n + 1) = cntF f (f n) n + 1 by simp [cntF, hk]] at hrun3
       have c23 := (hturn1.cell (o := 2) hbs).trans c2'
       clear hrun hor))
  refine leaves_cons (f := 10) (args := #[.pointer (some ⟨sb, 0, none⟩)]) (by simp) (by simp [go_sem]) ?_
  refine (unlock_deferred Yba.muLib ⟨sb, 0, none⟩ .returning _ ((hturn1.cell hbs).trans c0') ((hturn1.frozen _).trans (by simp [f0]))).mono ?_
  rintro e u' w'' ⟨rfl, rfl, rfl⟩
  exact ⟨_, results_tmp rfl _ _ _, rfl, w1, l', hown2, hI2, hturn1, rfl⟩

theorem addF_nil (sb : Nat) (f : Nat → Nat) (n : Nat) (w : World) (hk : feq (f n) (f n) = true) (c0 : w.cell? ⟨sb, 0, none⟩ = some (.int .i32 0)) (f0 : w.frozen? ⟨sb, 0, none⟩ = false) (f2 : w.frozen? ⟨sb, 2, none⟩ = false)
    (c2 : w.cell? ⟨sb, 2, none⟩ = some (.map none)) (hsb : sb < w.heap.size) (hI : Inv f n []) (hn : n ≤ 1024) :
    Calls Yba.prog 8 #[.pointer (some ⟨sb, 0, none⟩), .float .f64 (f n)] w fun e w' => e = .returned (.int .i64 ((cntF f (f n) n : Int) + 1)) ∧ ∃ w1 l', ownsF w1 w.heap.size l' ∧ Inv f (n + 1) l' ∧
      turnedF (((w.setCell ⟨sb, 0, none⟩ (.int .i32 1)).setCell ⟨sb, 2, none⟩ (.map (some w.heap.size))).alloc (.map #[] 0)) w1 w.heap.size ∧ w' = w1.setCell ⟨sb, 0, none⟩ (.int .i32 0) := by
  have hbs : w.heap.size ≠ sb := by omega
  have hown1 : ownsF (((w.setCell ⟨sb, 0, none⟩ (.int .i32 1)).setCell ⟨sb, 2, none⟩ (.map (some w.heap.size))).alloc (.map #[] 0)) w.heap.size [] := by
    have := ownsF.made ((w.setCell ⟨sb, 0, none⟩ (.int .i32 1)).setCell ⟨sb, 2, none⟩ (.map (some w.heap.size)))
    simpa [World.setCell] using this
  have q42 : ∀ (w : World) (r : Option Nat), (binOp .eql 42 (.map r) (.map none)).run Yba.prog w = .ok (.bool r.isNone) w := fun w r => run_eql_map_nil w _ _ _ r Yba.underlying42
  have hmm := @run_makeMap Yba.prog
  have c0' : (((w.setCell ⟨sb, 0, none⟩ (.int .i32 1)).setCell ⟨sb, 2, none⟩ (.map (some w.heap.size))).alloc (.map #[] 0)).cell? ⟨sb, 0, none⟩ = some (.int .i32 1) := by
    go_simp
  have f0' : (((w.setCell ⟨sb, 0, none⟩ (.int .i32 1)).setCell ⟨sb, 2, none⟩ (.map (some w.heap.size))).alloc (.map #[] 0)).frozen? ⟨sb, 0, none⟩ = false := by
    rw [World.frozen?_alloc_old _ _ _ (by simp [World.setCell]; omega)]
    simp [f0]
  have c2' : (((w.setCell ⟨sb, 0, none⟩ (.int .i32 1)).setCell ⟨sb, 2, none⟩ (.map (some w.heap.size))).alloc (.map #[] 0)).cell? ⟨sb, 2, none⟩ = some (.map (some w.heap.size)) := by
    go_simp
  have hrun := hown1.lookup (f n)
  rw [hI.look] at hrun
  have hle := cntF_le f (f n) n
  go_enter_defers Yba.func8, Yba.ntmps8
  go_wp2_with (first
    | (go_at_call 12; refine (findable_f _ _).mono ?_; rintro e w' ⟨rfl, rfl⟩)
    | (go_at_call 9; refine (lock_free Yba.muLib ⟨sb, 0, none⟩ _ c0 f0).mono ?_; rintro e w' ⟨rfl, rfl⟩)
    | (at_mapUpdate; go_must (refine wpList_update_F _ rfl _ _ _ rfl w.heap.size [] rfl hown1 (f n) _ rfl rfl ?_)
       intro w1 hturn1 hor
       obtain ⟨l', hown2, hI2⟩ : ∃ l', ownsF w1 w.heap.size l' ∧ Inv f (n + 1) l' := by
         rcases hor with ⟨h1, h2⟩ | ⟨j, p, x, h1, h2, h3, h4, h5⟩
         · exact ⟨_, h2, hI.fresh hk h1⟩
         · exact ⟨_, h5, hI.again h1 h2 h3⟩
       have hrun3 := hown2.lookup (f n)
       rw [hI2.look, show cntF f (f n) (n + 1) = cntF f (f n) n + 1 by simp [cntF, hk]] at hrun3
       have c23 := (hturn1.cell (o := 2) hbs).trans c2'
       clear hrun hor))
  refine leaves_cons (f := 10) (args := #[.pointer (some ⟨sb, 0, none⟩)]) (by simp) (by simp [go_sem]) ?_
  refine (unlock_deferred Yba.muLib ⟨sb, 0, none⟩ .returning _ ((hturn1.cell hbs).trans c0') ((hturn1.frozen _).trans f0')).mono ?_
  rintro e u' w'' ⟨rfl, rfl, rfl⟩
  exact ⟨_, results_tmp rfl _ _ _, rfl, w1, l', hown2, hI2, hturn1, rfl⟩

/-- The counter of block sb after n keys: its lock is free; its map's entries are as 'Inv' says. -/
structure Ff (w : World) (sb : Nat) (f : Nat → Nat) (n : Nat) : Prop where
  c0 : w.cell? ⟨sb, 0, none⟩ = some (.int .i32 0)
  f0 : w.frozen? ⟨sb, 0, none⟩ = false
  f2 : w.frozen? ⟨sb, 2, none⟩ = false
  m : (w.cell? ⟨sb, 2, none⟩ = some (.map none) ∧ Inv f n []) ∨ ∃ bm l, w.cell? ⟨sb, 2, none⟩ = some (.map (some bm)) ∧ sb < bm ∧ ownsF w bm l ∧ Inv f n l

theorem Ff.turned {w w1 : World} {sb n bm : Nat} {f : Nat → Nat} {l : List (Nat × Int)} (c0 : w.cell? ⟨sb, 0, none⟩ = some (.int .i32 1)) (f0 : w.frozen? ⟨sb, 0, none⟩ = false) (f2 : w.frozen? ⟨sb, 2, none⟩ = false)
    (c2 : w.cell? ⟨sb, 2, none⟩ = some (.map (some bm))) (hlt : sb < bm) (ht : turnedF w w1 bm) (hown : ownsF w1 bm l) (hI : Inv f n l) :
    Ff (w1.setCell ⟨sb, 0, none⟩ (.int .i32 0)) sb f n := by
  have k0 := (ht.cell (o := 0) (by omega : bm ≠ sb)).trans c0
  have k2 := (ht.cell (o := 2) (by omega : bm ≠ sb)).trans c2
  have g0 := (ht.frozen ⟨sb, 0, none⟩).trans f0
  have g2 := (ht.frozen ⟨sb, 2, none⟩).trans f2
  exact ⟨World.cell?_setCell_same w1 ⟨sb, 0, none⟩ _ k0, by simp [g0], by simp [g2],
    .inr ⟨bm, l, (World.cell?_setCell_other w1 ⟨sb, 0, none⟩ ⟨sb, 2, none⟩ _ (by simp)).trans k2, hlt, hown.setCell (a := ⟨sb, 0, none⟩) (by simp; omega) _, hI⟩⟩

/-- add of the n-th key, one that equals itself. -/
theorem addF_any (sb : Nat) (f : Nat → Nat) (n : Nat) (w : World) (h : Ff w sb f n) (hsb : sb < w.heap.size) (hk : feq (f n) (f n) = true) (hn : n ≤ 1024) :
    Calls Yba.prog 8 #[.pointer (some ⟨sb, 0, none⟩), .float .f64 (f n)] w fun e w' => e = .returned (.int .i64 ((cntF f (f n) n : Int) + 1)) ∧ Ff w' sb f (n + 1) ∧ Below sb w w' := by
  rcases h.m with ⟨hc, hI⟩ | ⟨bm, l, hc, hlt, hown, hI⟩
  · refine (addF_nil sb f n w hk h.c0 h.f0 h.f2 hc hsb hI hn).mono ?_
    rintro e w' ⟨rfl, w1, l', hown1, hI1, hturn, rfl⟩
    have hz : ((w.setCell ⟨sb, 0, none⟩ (.int .i32 1)).setCell ⟨sb, 2, none⟩ (.map (some w.heap.size))).heap.size = w.heap.size := by simp [World.setCell]
    refine ⟨rfl, Ff.turned (w := ((w.setCell ⟨sb, 0, none⟩ (.int .i32 1)).setCell ⟨sb, 2, none⟩ (.map (some w.heap.size))).alloc (.map #[] 0)) ?_ ?_ ?_ ?_ hsb hturn hown1 hI1, ?_⟩
    · have c0 := h.c0
      go_simp
    · rw [World.frozen?_alloc_old _ _ _ (by simp [World.setCell]; omega)]
      simp [h.f0]
    · rw [World.frozen?_alloc_old _ _ _ (by simp [World.setCell]; omega)]
      simp [h.f2]
    · go_simp
    · exact (((((Below.refl sb w).setCell (p := ⟨sb, 0, none⟩) (Nat.le_refl _) _).setCell (p := ⟨sb, 2, none⟩) (Nat.le_refl _) _).alloc (by rw [hz]; omega) _).trans (hturn.below (by omega))).setCell (p := ⟨sb, 0, none⟩) (Nat.le_refl _) _
  · refine (addF_map sb bm l f n w hk h.c0 h.f0 hc (by omega) hown hI hn).mono ?_
    rintro e w' ⟨rfl, w1, l', hown1, hI1, hturn, rfl⟩
    exact ⟨rfl, Ff.turned (World.cell?_setCell_same w ⟨sb, 0, none⟩ _ h.c0) (by simp [h.f0]) (by simp [h.f2]) ((World.cell?_setCell_other w ⟨sb, 0, none⟩ ⟨sb, 2, none⟩ _ (by simp)).trans hc) hlt hturn hown1 hI1,
      (((Below.refl sb w).setCell (p := ⟨sb, 0, none⟩) (Nat.le_refl _) _).trans (hturn.below (by omega))).setCell (p := ⟨sb, 0, none⟩) (Nat.le_refl _) _⟩

/-- .. one that does not. -/
theorem Ff.nan {w : World} {sb n : Nat} {f : Nat → Nat} (h : Ff w sb f n) (hk : feq (f n) (f n) = false) : Ff w sb f (n + 1) :=
  ⟨h.c0, h.f0, h.f2, h.m.imp (fun ⟨hc, hI⟩ => ⟨hc, hI.nan hk⟩) fun ⟨bm, l, hc, hlt, hown, hI⟩ => ⟨bm, l, hc, hlt, hown, hI.nan hk⟩⟩
end Go.Proofs.Ybulkcunk
