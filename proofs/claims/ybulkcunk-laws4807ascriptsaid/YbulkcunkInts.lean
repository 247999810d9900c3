/-
  failureCounts[int]: forget, count and add, each by its walk (the lock by the kit's contracts, the map by the kit's laws), and joined over 'Fc': the counter counts F.
-/
import Derived.Test.YbulkcunkRows
import Derived.Test.YbulkcunkLocks
import Derived.Conc.MuLone
import Derived.Maps.OwnSet
import Derived.WalkKit
import Derived.WalkSpells
import Derived.Below
namespace Go.Proofs.Ybulkcunk
open Go.RowKit Go.Maps
open Go.MuLone

theorem law3 : Keyed Yba.prog 3 := int_keyed Yba.underlying3
theorem zero3 (w : World) : (zeroValue 3).run Yba.prog w = .ok (.int .i64 0) w := by kernel_rfl
abbrev ownsI (w : World) (bm n : Nat) (D : DataW Unit) : Prop := w.ownsMap Yba.prog 3 (plainElem Yba.prog 3) bm n D
abbrev at3 (D : DataW Unit) (k : Int) : DataW Unit := D.atKey (.int .i64 k) (.lit (.int .i64 0))

/-- The counter of block sb: its lock is free, its map (nil, or of at most n entries) counts F. -/
structure Fc (w : World) (sb n : Nat) (F : Int → Int) : Prop where
  c0 : w.cell? ⟨sb, 0, none⟩ = some (.int .i32 0)
  f0 : w.frozen? ⟨sb, 0, none⟩ = false
  f2 : w.frozen? ⟨sb, 2, none⟩ = false
  m : (w.cell? ⟨sb, 2, none⟩ = some (.map none) ∧ ∀ k, F k = 0) ∨
    ∃ bm D, w.cell? ⟨sb, 2, none⟩ = some (.map (some bm)) ∧ sb < bm ∧ ownsI w bm n D ∧ ∀ k, (Lit.int .i64 k).wf = true → at3 D k = .lit (.int .i64 (F k))

theorem turned_cell {w w1 : World} {bm sb o : Nat} (h : w.mapTurned w1 bm) (hne : bm ≠ sb) : w1.cell? ⟨sb, o, none⟩ = w.cell? ⟨sb, o, none⟩ := by
  obtain ⟨es, clock, es', clock', hb, rfl⟩ := h
  exact World.cell?_of_block (ChangeMaps.heap_setBlock_other hb _ hne.symm)

theorem count_nil (sb : Nat) (k : Int) (w : World) (hk : (Lit.int .i64 k).wf = true) (c0 : w.cell? ⟨sb, 0, none⟩ = some (.int .i32 0)) (f0 : w.frozen? ⟨sb, 0, none⟩ = false) (c2 : w.cell? ⟨sb, 2, none⟩ = some (.map none)) :
    Calls Yba.prog 6 #[.pointer (some ⟨sb, 0, none⟩), .int .i64 k] w fun e w' => e = .returned (.int .i64 0) ∧ w' = (w.setCell ⟨sb, 0, none⟩ (.int .i32 1)).setCell ⟨sb, 0, none⟩ (.int .i32 0) := by
  have hrun := look_nil (w := w.setCell ⟨sb, 0, none⟩ (.int .i32 1)) false law3 Yba.underlying31 (zero3 _) (keyOf_int_mk Yba.underlying3 hk)
  go_enter_defers Yba.func6, Yba.ntmps6
  go_wp2_with (go_at_call 9; refine (lock_free Yba.muLib ⟨sb, 0, none⟩ _ c0 f0).mono ?_; rintro e w' ⟨rfl, rfl⟩)
  refine leaves_cons (f := 10) (args := #[.pointer (some ⟨sb, 0, none⟩)]) (by simp) (by simp [go_sem]) ?_
  refine (unlock_deferred Yba.muLib ⟨sb, 0, none⟩ .returning _ ?_ ?_).mono ?_
  · exact World.cell?_setCell_same w ⟨sb, 0, none⟩ (.int .i32 1) c0
  · simp [f0]
  rintro e u' w'' ⟨rfl, rfl, rfl⟩
  exact ⟨_, results_tmp rfl _ _ _, rfl, rfl⟩

theorem count_map (sb bm n : Nat) (D : DataW Unit) (k : Int) (w : World) (hk : (Lit.int .i64 k).wf = true) (c0 : w.cell? ⟨sb, 0, none⟩ = some (.int .i32 0)) (f0 : w.frozen? ⟨sb, 0, none⟩ = false)
    (c2 : w.cell? ⟨sb, 2, none⟩ = some (.map (some bm))) (hbs : bm ≠ sb) (hown : ownsI w bm n D) :
    Calls Yba.prog 6 #[.pointer (some ⟨sb, 0, none⟩), .int .i64 k] w fun e w' => ∃ c, e = .returned (.int .i64 c) ∧ at3 D k = .lit (.int .i64 c) ∧ w' = (w.setCell ⟨sb, 0, none⟩ (.int .i32 1)).setCell ⟨sb, 0, none⟩ (.int .i32 0) := by
  have hkey := keyOf_int_mk Yba.underlying3 hk
  have hown1 := hown.setCell (a := ⟨sb, 0, none⟩) hbs (.int .i32 1)
  go_enter_defers Yba.func6, Yba.ntmps6
  go_wp2_with (first
    | (go_at_call 9; refine (lock_free Yba.muLib ⟨sb, 0, none⟩ _ c0 f0).mono ?_; rintro e w' ⟨rfl, rfl⟩)
    | (at_lookup; refine wpList_lookup_own_int _ rfl _ _ 31 rfl 3 3 .i64 law3 Yba.underlying31 Yba.underlying3 (zero3 _) bm n D rfl hown1 _ _ rfl hkey ?_; intro c hat hwc))
  refine leaves_cons (f := 10) (args := #[.pointer (some ⟨sb, 0, none⟩)]) (by simp) (by simp [go_sem]) ?_
  refine (unlock_deferred Yba.muLib ⟨sb, 0, none⟩ .returning _ ?_ ?_).mono ?_
  · exact World.cell?_setCell_same w ⟨sb, 0, none⟩ (.int .i32 1) c0
  · simp [f0]
  rintro e u' w'' ⟨rfl, rfl, rfl⟩
  exact ⟨_, results_tmp rfl _ _ _, c, rfl, hat, rfl⟩

theorem forget_nil (sb : Nat) (k : Int) (w : World) (hk : (Lit.int .i64 k).wf = true) (c0 : w.cell? ⟨sb, 0, none⟩ = some (.int .i32 0)) (f0 : w.frozen? ⟨sb, 0, none⟩ = false) (c2 : w.cell? ⟨sb, 2, none⟩ = some (.map none)) :
    Calls Yba.prog 5 #[.pointer (some ⟨sb, 0, none⟩), .int .i64 k] w fun e w' => e = .returned (.tuple #[]) ∧ w' = (w.setCell ⟨sb, 0, none⟩ (.int .i32 1)).setCell ⟨sb, 0, none⟩ (.int .i32 0) := by
  have hrun := fun ty => drop_nil (w := w.setCell ⟨sb, 0, none⟩ (.int .i32 1)) law3 Yba.underlying31 (keyOf_int_mk Yba.underlying3 hk) ty
  go_enter Yba.func5, Yba.ntmps5
  go_wp2_with (go_at_call 9; refine (lock_free Yba.muLib ⟨sb, 0, none⟩ _ c0 f0).mono ?_; rintro e w' ⟨rfl, rfl⟩)
  refine (unlock_held Yba.muLib ⟨sb, 0, none⟩ _ ?_ ?_).mono ?_
  · exact World.cell?_setCell_same w ⟨sb, 0, none⟩ (.int .i32 1) c0
  · simp [f0]
  rintro e w' ⟨rfl, rfl⟩
  go_wp2
  go_end0
  exact ⟨rfl, rfl⟩

theorem forget_map (sb bm n : Nat) (D : DataW Unit) (k : Int) (w : World) (hk : (Lit.int .i64 k).wf = true) (c0 : w.cell? ⟨sb, 0, none⟩ = some (.int .i32 0)) (f0 : w.frozen? ⟨sb, 0, none⟩ = false)
    (c2 : w.cell? ⟨sb, 2, none⟩ = some (.map (some bm))) (hbs : bm ≠ sb) (hown : ownsI w bm n D) :
    Calls Yba.prog 5 #[.pointer (some ⟨sb, 0, none⟩), .int .i64 k] w fun e w' => e = .returned (.tuple #[]) ∧ ∃ w1, ownsI w1 bm n (D.del (.int .i64 k)) ∧ (w.setCell ⟨sb, 0, none⟩ (.int .i32 1)).mapTurned w1 bm ∧ w' = w1.setCell ⟨sb, 0, none⟩ (.int .i32 0) := by
  have hkey := keyOf_int_mk Yba.underlying3 hk
  have hown1 := hown.setCell (a := ⟨sb, 0, none⟩) hbs (.int .i32 1)
  have c0' : (w.setCell ⟨sb, 0, none⟩ (.int .i32 1)).cell? ⟨sb, 0, none⟩ = some (.int .i32 1) := World.cell?_setCell_same w ⟨sb, 0, none⟩ (.int .i32 1) c0
  go_enter Yba.func5, Yba.ntmps5
  go_wp2_with (first
    | (go_at_call 9; refine (lock_free Yba.muLib ⟨sb, 0, none⟩ _ c0 f0).mono ?_; rintro e w' ⟨rfl, rfl⟩)
    | (at_delete; refine wpList_delete_own _ rfl _ _ 31 3 rfl 3 law3 Yba.underlying31 _ bm n D rfl hown1 _ _ rfl hkey ?_; intro w1 hown2 hturn1))
  refine (unlock_held Yba.muLib ⟨sb, 0, none⟩ _ ((turned_cell hturn1 hbs).trans c0') ((hturn1.frozen _).trans (by simp [f0]))).mono ?_
  rintro e w' ⟨rfl, rfl⟩
  go_wp2
  go_end0
  exact ⟨rfl, w1, hown2, hturn1, rfl⟩

theorem findable_int (k : Int) (w : World) : Calls Yba.prog 11 #[.int .i64 k] w fun e w' => e = .returned (.bool true) ∧ w = w' := by
  go_enter Yba.func11, Yba.ntmps11
  go_wp2
  go_ret
  exact ⟨by simp, rfl⟩

theorem put_look {w1 : World} {bm m : Nat} {D : DataW Unit} {k v : Int} (hk : (Lit.int .i64 k).wf = true) (hD : IsMap D) (hown : ownsI w1 bm m (D.put (.int .i64 k) (.lit (.int .i64 v)))) :
    (Instr.lookup 31 (.map (some bm)) (.int .i64 k) false).run Yba.prog w1 = .ok (.int .i64 v) w1 := by
  obtain ⟨c3, hrun3, hat3, _⟩ := hown.lookup_int law3 Yba.underlying31 Yba.underlying3 (zero3 _) (keyOf_int_mk Yba.underlying3 hk)
  rw [Maps.atKey_put_same (k := .int .i64 k) hD trivial] at hat3
  obtain rfl : v = c3 := by simpa using hat3
  exact hrun3

theorem add_map (sb bm n : Nat) (D : DataW Unit) (k c : Int) (w : World) (hk : (Lit.int .i64 k).wf = true) (c0 : w.cell? ⟨sb, 0, none⟩ = some (.int .i32 0)) (f0 : w.frozen? ⟨sb, 0, none⟩ = false)
    (c2 : w.cell? ⟨sb, 2, none⟩ = some (.map (some bm))) (hbs : bm ≠ sb) (hown : ownsI w bm n D) (hn : n < maxLen) (hc : at3 D k = .lit (.int .i64 c)) (hc0 : 0 ≤ c) (hc1 : c ≤ 100000) :
    Calls Yba.prog 7 #[.pointer (some ⟨sb, 0, none⟩), .int .i64 k] w fun e w' => e = .returned (.int .i64 (c + 1)) ∧ ∃ w1, ownsI w1 bm (n + 1) (D.put (.int .i64 k) (.lit (.int .i64 (c + 1)))) ∧ (w.setCell ⟨sb, 0, none⟩ (.int .i32 1)).mapTurned w1 bm ∧ w' = w1.setCell ⟨sb, 0, none⟩ (.int .i32 0) := by
  have hkey := keyOf_int_mk Yba.underlying3 hk
  have hown1 := hown.setCell (a := ⟨sb, 0, none⟩) hbs (.int .i32 1)
  have c0' : (w.setCell ⟨sb, 0, none⟩ (.int .i32 1)).cell? ⟨sb, 0, none⟩ = some (.int .i32 1) := World.cell?_setCell_same w ⟨sb, 0, none⟩ (.int .i32 1) c0
  have q31 : ∀ (w : World) (r : Option Nat), (binOp .eql 31 (.map r) (.map none)).run Yba.prog w = .ok (.bool r.isNone) w := fun w r => run_eql_map_nil w _ _ _ r Yba.underlying31
  have c2' : (w.setCell ⟨sb, 0, none⟩ (.int .i32 1)).cell? ⟨sb, 2, none⟩ = some (.map (some bm)) := (World.cell?_setCell_other w ⟨sb, 0, none⟩ ⟨sb, 2, none⟩ _ (by simp)).trans c2
  have hwc : (Lit.int .i64 (c + 1)).wf = true := WalkArith.wf_i64 (by omega)
  obtain ⟨c', hrun, hat, _⟩ := hown1.lookup_int law3 Yba.underlying31 Yba.underlying3 (zero3 _) hkey
  obtain rfl : c' = c := by have := hat.symm.trans hc; simpa using this
  clear hat
  go_enter_defers Yba.func7, Yba.ntmps7
  go_wp2_with (first
    | (go_at_call 11; refine (findable_int _ _).mono ?_; rintro e w' ⟨rfl, rfl⟩)
    | (go_at_call 9; refine (lock_free Yba.muLib ⟨sb, 0, none⟩ _ c0 f0).mono ?_; rintro e w' ⟨rfl, rfl⟩)
    | (at_mapUpdate; refine wpList_mapUpdate_in _ rfl _ _ _ 31 rfl 3 3 law3 Yba.underlying31 _ bm n D rfl hown1 hn _ _ _ rfl rfl hkey _ [] (plainElem_int Yba.underlying3 hwc) ?_; intro w1 hown2 hturn1
       have hrun3 := put_look hk hown1.isMap hown2
       have c23 := (turned_cell (o := 2) hturn1 hbs).trans c2'
       clear hrun))
  refine leaves_cons (f := 10) (args := #[.pointer (some ⟨sb, 0, none⟩)]) (by simp) (by simp [go_sem]) ?_
  refine (unlock_deferred Yba.muLib ⟨sb, 0, none⟩ .returning _ ((turned_cell hturn1 hbs).trans c0') ((hturn1.frozen _).trans (by simp [f0]))).mono ?_
  rintro e u' w'' ⟨rfl, rfl, rfl⟩
  exact ⟨_, results_tmp rfl _ _ _, rfl, w1, hown2, hturn1, rfl⟩

theorem add_nil (sb : Nat) (k : Int) (w : World) (hk : (Lit.int .i64 k).wf = true) (c0 : w.cell? ⟨sb, 0, none⟩ = some (.int .i32 0)) (f0 : w.frozen? ⟨sb, 0, none⟩ = false) (f2 : w.frozen? ⟨sb, 2, none⟩ = false)
    (c2 : w.cell? ⟨sb, 2, none⟩ = some (.map none)) (hsb : sb < w.heap.size) :
    Calls Yba.prog 7 #[.pointer (some ⟨sb, 0, none⟩), .int .i64 k] w fun e w' => e = .returned (.int .i64 1) ∧ ∃ w1, ownsI w1 w.heap.size 1 ((DataW.map []).put (.int .i64 k) (.lit (.int .i64 1))) ∧
      (((w.setCell ⟨sb, 0, none⟩ (.int .i32 1)).setCell ⟨sb, 2, none⟩ (.map (some w.heap.size))).alloc (.map #[] 0)).mapTurned w1 w.heap.size ∧ w' = w1.setCell ⟨sb, 0, none⟩ (.int .i32 0) := by
  have hkey := keyOf_int_mk Yba.underlying3 hk
  have hbs : w.heap.size ≠ sb := by omega
  have hown1 : ownsI (((w.setCell ⟨sb, 0, none⟩ (.int .i32 1)).setCell ⟨sb, 2, none⟩ (.map (some w.heap.size))).alloc (.map #[] 0)) w.heap.size 0 (.map []) := by
    have := World.ownsMap_made (H := Unit) ((w.setCell ⟨sb, 0, none⟩ (.int .i32 1)).setCell ⟨sb, 2, none⟩ (.map (some w.heap.size))) Yba.prog 3 (plainElem Yba.prog 3)
    simpa [World.setCell] using this
  have q31 : ∀ (w : World) (r : Option Nat), (binOp .eql 31 (.map r) (.map none)).run Yba.prog w = .ok (.bool r.isNone) w := fun w r => run_eql_map_nil w _ _ _ r Yba.underlying31
  have hmm := @run_makeMap Yba.prog
  have c0' : (((w.setCell ⟨sb, 0, none⟩ (.int .i32 1)).setCell ⟨sb, 2, none⟩ (.map (some w.heap.size))).alloc (.map #[] 0)).cell? ⟨sb, 0, none⟩ = some (.int .i32 1) := by
    go_simp
  have f0' : (((w.setCell ⟨sb, 0, none⟩ (.int .i32 1)).setCell ⟨sb, 2, none⟩ (.map (some w.heap.size))).alloc (.map #[] 0)).frozen? ⟨sb, 0, none⟩ = false := by
    rw [World.frozen?_alloc_old _ _ _ (by simp [World.setCell]; omega)]
    simp [f0]
  have c2' : (((w.setCell ⟨sb, 0, none⟩ (.int .i32 1)).setCell ⟨sb, 2, none⟩ (.map (some w.heap.size))).alloc (.map #[] 0)).cell? ⟨sb, 2, none⟩ = some (.map (some w.heap.size)) := by
    go_simp
  obtain ⟨c', hrun, hat, _⟩ := hown1.lookup_int law3 Yba.underlying31 Yba.underlying3 (zero3 _) hkey
  obtain rfl : 0 = c' := by simpa [DataW.atKey] using hat
  clear hat
  go_enter_defers Yba.func7, Yba.ntmps7
  go_wp2_with (first
    | (go_at_call 11; refine (findable_int _ _).mono ?_; rintro e w' ⟨rfl, rfl⟩)
    | (go_at_call 9; refine (lock_free Yba.muLib ⟨sb, 0, none⟩ _ c0 f0).mono ?_; rintro e w' ⟨rfl, rfl⟩)
    | (at_mapUpdate; refine wpList_mapUpdate_in _ rfl _ _ _ 31 rfl 3 3 law3 Yba.underlying31 _ w.heap.size 0 _ rfl hown1 (by unfold maxLen; omega) _ _ _ rfl rfl hkey _ [] (plainElem_int Yba.underlying3 (by decide)) ?_; intro w1 hown2 hturn1
       have hrun3 := put_look hk hown1.isMap hown2
       have c23 := (turned_cell (o := 2) hturn1 hbs).trans c2'
       clear hrun))
  refine leaves_cons (f := 10) (args := #[.pointer (some ⟨sb, 0, none⟩)]) (by simp) (by simp [go_sem]) ?_
  refine (unlock_deferred Yba.muLib ⟨sb, 0, none⟩ .returning _ ((turned_cell hturn1 hbs).trans c0') ((hturn1.frozen _).trans f0')).mono ?_
  rintro e u' w'' ⟨rfl, rfl, rfl⟩
  exact ⟨_, results_tmp rfl _ _ _, rfl, w1, hown2, hturn1, rfl⟩

/-! ### The three methods over 'Fc' -/
theorem wf_add {x : Int} (h0 : 0 ≤ x) (h1 : x ≤ 100000) : (Lit.int .i64 x).wf = true := WalkArith.wf_i64 (by omega)

/-- The lock taken and let go: nothing else has turned. -/
theorem Fc.twice {w : World} {sb n : Nat} {F : Int → Int} (h : Fc w sb n F) : Fc ((w.setCell ⟨sb, 0, none⟩ (.int .i32 1)).setCell ⟨sb, 0, none⟩ (.int .i32 0)) sb n F := by
  have c2 : ∀ v, w.cell? ⟨sb, 2, none⟩ = some v → ((w.setCell ⟨sb, 0, none⟩ (.int .i32 1)).setCell ⟨sb, 0, none⟩ (.int .i32 0)).cell? ⟨sb, 2, none⟩ = some v := fun v hv =>
    (World.cell?_setCell_other _ ⟨sb, 0, none⟩ ⟨sb, 2, none⟩ _ (by simp)).trans ((World.cell?_setCell_other w ⟨sb, 0, none⟩ ⟨sb, 2, none⟩ _ (by simp)).trans hv)
  refine ⟨World.cell?_setCell_same _ ⟨sb, 0, none⟩ _ (World.cell?_setCell_same w ⟨sb, 0, none⟩ _ h.c0), by simp [h.f0], by simp [h.f2], ?_⟩
  rcases h.m with ⟨hc, hF⟩ | ⟨bm, D, hc, hlt, hown, hF⟩
  · exact .inl ⟨c2 _ hc, hF⟩
  · exact .inr ⟨bm, D, c2 _ hc, hlt, (hown.setCell (a := ⟨sb, 0, none⟩) (by simp; omega) _).setCell (a := ⟨sb, 0, none⟩) (by simp; omega) _, hF⟩

theorem below_twice (w : World) (sb : Nat) : Below sb w ((w.setCell ⟨sb, 0, none⟩ (.int .i32 1)).setCell ⟨sb, 0, none⟩ (.int .i32 0)) :=
  ((Below.refl sb w).setCell (p := ⟨sb, 0, none⟩) (Nat.le_refl _) _).setCell (p := ⟨sb, 0, none⟩) (Nat.le_refl _) _

theorem count_any (sb n : Nat) (F : Int → Int) (k : Int) (w : World) (h : Fc w sb n F) (hk : (Lit.int .i64 k).wf = true) :
    Calls Yba.prog 6 #[.pointer (some ⟨sb, 0, none⟩), .int .i64 k] w fun e w' => e = .returned (.int .i64 (F k)) ∧ Fc w' sb n F ∧ Below sb w w' := by
  rcases h.m with ⟨hc, hF⟩ | ⟨bm, D, hc, hlt, hown, hF⟩
  · refine (count_nil sb k w hk h.c0 h.f0 hc).mono ?_
    rintro e w' ⟨rfl, rfl⟩
    exact ⟨by rw [hF k], h.twice, below_twice w sb⟩
  · refine (count_map sb bm n D k w hk h.c0 h.f0 hc (by omega) hown).mono ?_
    rintro e w' ⟨c, rfl, hat, rfl⟩
    have e1 : F k = c := by have := (hF k hk).symm.trans hat; simpa using this
    exact ⟨by rw [e1], h.twice, below_twice w sb⟩

/-- Behind a turn of the map, the lock let go. -/
theorem Fc.turned {w w1 : World} {sb n bm : Nat} {F : Int → Int} {D : DataW Unit} (c0 : w.cell? ⟨sb, 0, none⟩ = some (.int .i32 1)) (f0 : w.frozen? ⟨sb, 0, none⟩ = false) (f2 : w.frozen? ⟨sb, 2, none⟩ = false)
    (c2 : w.cell? ⟨sb, 2, none⟩ = some (.map (some bm))) (hlt : sb < bm) (ht : w.mapTurned w1 bm) (hown : ownsI w1 bm n D) (hF : ∀ k, (Lit.int .i64 k).wf = true → at3 D k = .lit (.int .i64 (F k))) :
    Fc (w1.setCell ⟨sb, 0, none⟩ (.int .i32 0)) sb n F := by
  have k0 := (turned_cell (o := 0) ht (by omega : bm ≠ sb)).trans c0
  have k2 := (turned_cell (o := 2) ht (by omega : bm ≠ sb)).trans c2
  have g0 := (ht.frozen ⟨sb, 0, none⟩).trans f0
  have g2 := (ht.frozen ⟨sb, 2, none⟩).trans f2
  exact ⟨World.cell?_setCell_same w1 ⟨sb, 0, none⟩ _ k0, by simp [g0], by simp [g2],
    .inr ⟨bm, D, (World.cell?_setCell_other w1 ⟨sb, 0, none⟩ ⟨sb, 2, none⟩ _ (by simp)).trans k2, hlt, hown.setCell (a := ⟨sb, 0, none⟩) (by simp; omega) _, hF⟩⟩

theorem forget_any (sb n : Nat) (F : Int → Int) (k : Int) (w : World) (h : Fc w sb n F) (hsb : sb < w.heap.size) (hk : (Lit.int .i64 k).wf = true) :
    Calls Yba.prog 5 #[.pointer (some ⟨sb, 0, none⟩), .int .i64 k] w fun e w' => e = .returned (.tuple #[]) ∧ Fc w' sb n (fun x => if x = k then 0 else F x) ∧ Below sb w w' := by
  rcases h.m with ⟨hc, hF⟩ | ⟨bm, D, hc, hlt, hown, hF⟩
  · refine (forget_nil sb k w hk h.c0 h.f0 hc).mono ?_
    rintro e w' ⟨rfl, rfl⟩
    have e1 : (fun x => if x = k then 0 else F x) = F := by funext x; split <;> simp [hF]
    exact ⟨rfl, by rw [e1]; exact h.twice, below_twice w sb⟩
  · refine (forget_map sb bm n D k w hk h.c0 h.f0 hc (by omega) hown).mono ?_
    rintro e w' ⟨rfl, w1, hown1, hturn, rfl⟩
    refine ⟨rfl, Fc.turned (World.cell?_setCell_same w ⟨sb, 0, none⟩ _ h.c0) (by simp [h.f0]) (by simp [h.f2]) ((World.cell?_setCell_other w ⟨sb, 0, none⟩ ⟨sb, 2, none⟩ _ (by simp)).trans hc) hlt hturn hown1 (fun x hx => ?_), ?_⟩
    · by_cases e : x = k
      · subst e
        simp [at3, Maps.atKey_del_same]
      · simp only [at3, if_neg e]
        rw [Maps.atKey_del_other (by simpa using e)]
        exact hF x hx
    · exact (((Below.refl sb w).setCell (p := ⟨sb, 0, none⟩) (Nat.le_refl _) _).grown hturn.grown (by simp [World.setCell]; omega) (fun j hj => by cases hj; omega)).setCell (p := ⟨sb, 0, none⟩) (Nat.le_refl _) _

theorem add_any (sb n : Nat) (F : Int → Int) (k : Int) (w : World) (h : Fc w sb n F) (hsb : sb < w.heap.size) (hn : n < 100000) (hk : (Lit.int .i64 k).wf = true) (h0 : 0 ≤ F k) (h1 : F k ≤ 100000) :
    Calls Yba.prog 7 #[.pointer (some ⟨sb, 0, none⟩), .int .i64 k] w fun e w' => e = .returned (.int .i64 (F k + 1)) ∧ Fc w' sb (n + 1) (fun x => if x = k then F k + 1 else F x) ∧ Below sb w w' := by
  rcases h.m with ⟨hc, hF⟩ | ⟨bm, D, hc, hlt, hown, hF⟩
  · refine (add_nil sb k w hk h.c0 h.f0 h.f2 hc hsb).mono ?_
    rintro e w' ⟨rfl, w1, hown1, hturn, rfl⟩
    have hz : ((w.setCell ⟨sb, 0, none⟩ (.int .i32 1)).setCell ⟨sb, 2, none⟩ (.map (some w.heap.size))).heap.size = w.heap.size := by simp [World.setCell]
    refine ⟨by rw [hF k]; rfl, Fc.turned (w := ((w.setCell ⟨sb, 0, none⟩ (.int .i32 1)).setCell ⟨sb, 2, none⟩ (.map (some w.heap.size))).alloc (.map #[] 0)) ?_ ?_ ?_ ?_ hsb hturn (hown1.mono (by omega)) (fun x hx => ?_), ?_⟩
    · have c0 := h.c0
      go_simp
    · rw [World.frozen?_alloc_old _ _ _ (by simp [World.setCell]; omega)]
      simp [h.f0]
    · rw [World.frozen?_alloc_old _ _ _ (by simp [World.setCell]; omega)]
      simp [h.f2]
    · go_simp
    · by_cases e : x = k
      · subst e
        simp only [at3, if_true]
        rw [Maps.atKey_put_same (k := .int .i64 x) Maps.isMap_empty trivial, hF x]
        rfl
      · simp only [at3, if_neg e]
        rw [Maps.atKey_put_other (by simpa using e), hF x]
        rfl
    · refine (((((Below.refl sb w).setCell (p := ⟨sb, 0, none⟩) (Nat.le_refl _) _).setCell (p := ⟨sb, 2, none⟩) (Nat.le_refl _) _).alloc (by rw [hz]; omega) _).grown hturn.grown ?_ (fun j hj => by cases hj; omega)).setCell (p := ⟨sb, 0, none⟩) (Nat.le_refl _) _
      simp [World.setCell]
      omega
  · refine (add_map sb bm n D k (F k) w hk h.c0 h.f0 hc (by omega) hown (by unfold maxLen; omega) (hF k hk) h0 h1).mono ?_
    rintro e w' ⟨rfl, w1, hown1, hturn, rfl⟩
    refine ⟨rfl, Fc.turned (World.cell?_setCell_same w ⟨sb, 0, none⟩ _ h.c0) (by simp [h.f0]) (by simp [h.f2]) ((World.cell?_setCell_other w ⟨sb, 0, none⟩ ⟨sb, 2, none⟩ _ (by simp)).trans hc) hlt hturn hown1 (fun x hx => ?_), ?_⟩
    · by_cases e : x = k
      · subst e
        simp only [at3, if_true]
        exact Maps.atKey_put_same (k := .int .i64 x) hown.isMap trivial _ _
      · simp only [at3, if_neg e]
        rw [Maps.atKey_put_other (by simpa using e)]
        exact hF x hx
    · exact (((Below.refl sb w).setCell (p := ⟨sb, 0, none⟩) (Nat.le_refl _) _).grown hturn.grown (by simp [World.setCell]; omega) (fun j hj => by cases hj; omega)).setCell (p := ⟨sb, 0, none⟩) (Nat.le_refl _) _
end Go.Proofs.Ybulkcunk
