/-
  IEs and its iterator IEs$1: the iterator keeps its offset in a captured cell; its contract is over any body that keeps that cell, the PDU's and the new IE's.
-/
import Derived.Test.YbulkcupaFmtCell
import Derived.RangeFuncNested
import Derived.RangeFuncBound
import Derived.RangeFuncCalls
import Derived.RangeFuncLeaves
import Derived.Shelf.Abstract
import Derived.Shelf.RegionOpen
import Derived.OwnWalkIn
import Derived.TacticsInMore
import Derived.LoopNIn
import Derived.LoopIn
namespace Go.Proofs.YbulkcupaFmt
open Go.RowKit Go.Extern.Stop Go.Stop Go.Extern Go.Shelf
attribute [local go_sem] Oper.semAt_some

theorem ies_any (a : Option Addr) (k c : Nat) (n : Int) (w : World) :
    Calls Ybaf.prog 14 #[.slice a k c, .int .i64 n] w fun e w' => e = .returned (.func (.func 24) #[] #[.pointer (some ⟨w.heap.size + 1, 0, none⟩), .pointer (some ⟨w.heap.size, 0, none⟩)]) ∧ w' = (w.alloc (.cells #[.slice a k c] 30)).alloc (.cells #[.int .i64 n] 3) := by
  go_enter Ybaf.func14, Ybaf.ntmps14
  go_wp2
  go_returns
  exact ⟨rfl, rfl⟩

/-- What the box of 'off' holds. -/
def offOf (w : World) (ob : Nat) : Nat := match w.cell? ⟨ob, 0, none⟩ with | some (.int _ n) => n.toNat | _ => 0

set_option maxRecDepth 100000 in
set_option maxHeartbeats 1000000 in
theorem iter_any (F : Interp) (m l ob qb g N cap base : Nat) (R : Nat → Nat) (S : Nat → Prop) (J : Nat → World → Prop) (Jx : World → Prop) (hm : 1 ≤ m) (h1 : ¬ S ob) (h2 : ¬ S qb) (h3 : ¬ S g) (hSb : ∀ k, S k → k < base) (n1 : ob ≠ qb) (n2 : ob ≠ g) (hcap : N ≤ cap)
    (hJ : ∀ off W W', J off W → Kept (· = ob) W W' → J off W')
    (hok : ∀ off W p len a c, J off W → off < N → ieAt R N off = .ok p len → (0 < len → a = some ⟨g, p, none⟩ ∧ len ≤ c) → YieldAt Fence.wide (m - 1) Ybaf.prog l #[.agg #[.int .u8 (R off : Int), .slice a len c, .int .i64 (off : Int), .int .i64 (p : Int)], .nilIface] W fun e W' =>
      (e = .returned (.bool true) ∧ J (p + len) W' ∧ Kept S W W') ∨ (e = .returned (.bool false) ∧ Jx W'))
    (hbad : ∀ off W o q, J off W → off < N → ieAt R N off = .bad o → W.cell? ⟨q, 0, none⟩ = some (.int .i64 (o : Int)) → YieldAt Fence.wide (m - 1) Ybaf.prog l #[.agg #[.int .u8 0, .slice none (0 : Nat) (0 : Nat), .int .i64 0, .int .i64 0], .iface 48 (.pointer (some ⟨q, 0, none⟩))] W fun e W' => e = .returned (.bool false) ∧ Jx W')
    (W : World) (hW : base ≤ W.heap.size) (hp : Pdu W g N R) (hob : Box W ob [.int .i64 1]) (hqb : Box W qb [.slice (some ⟨g, 0, none⟩) N cap]) (hF : F.answers W.tape) (h0 : J 1 W) :
    CallsIn Fence.wide m Ybaf.prog 24 #[.func (.yield l) #[] #[], .pointer (some ⟨ob, 0, none⟩), .pointer (some ⟨qb, 0, none⟩)] W fun e W' => (∃ v, e = .returned v) ∧ ((∃ off, N ≤ off ∧ J off W') ∨ Jx W') := by
  refine callsIn_of_wp Ybaf.func24 rfl trivial ?_ rfl
  simp only [Ybaf.ntmps24, List.size_toArray, List.length_cons, List.length_nil, Nat.reduceAdd, Nat.reduceSub, Array.replicate_succ, Array.replicate_zero, List.push_toArray, List.append_toArray, List.nil_append, List.cons_append]
  gi_wp2
  gi_loopw [5] (fun _ wr => ∃ off : Nat, Box wr ob [.int .i64 (off : Int)] ∧ J off wr ∧ Kept (fun k => S k ∨ k = ob) W wr) (fun _ wr => N - offOf wr ob)
  case atStart => exact ⟨1, hob, h0, Kept.refl _ _⟩
  case round =>
    obtain ⟨off, bo, hj, hk⟩ := hrel
    have bq := hqb.kept hk (by rintro (h | h); exact h2 h; exact n1 h.symm)
    have hp' := hp.kept hk (by rintro (h | h); exact h3 h; exact n2 h.symm)
    have co := bo.cell 0 _ rfl
    have cq := bq.cell 0 _ rfl
    have hlen := hp'.len
    by_cases hlt : off < N
    · have hrd := readIE_any F g N cap off R wr (by rw [hk.tape]; exact hF) hp' hcap hlt
      gi_wp2_with fail
      refine ⟨trivial, (callsIn_wide.2 hrd).mono ?_⟩
      rintro e w3 h
      clear hrd
      cases hie : ieAt R N off with
      | bad o =>
        rw [hie] at h
        obtain ⟨q, rfl, hq, hqc, b3⟩ := h
        obtain ⟨V, hV⟩ : ∃ V, V = w3.alloc (.cells #[.int .u8 0, .slice none (0 : Nat) (0 : Nat), .int .i64 0, .int .i64 0] 63) := ⟨_, rfl⟩
        have bV : Below wr.heap.size wr V := by rw [hV]; exact b3.alloc b3.size _
        have hqV : V.cell? ⟨q, 0, none⟩ = some (.int .i64 (o : Int)) := by
          rw [hV]; exact ((Kept.alloc (Kept.refl (fun _ => False) w3) _).cell (p := ⟨q, 0, none⟩) (World.block_lt_of_cell? _ _ hqc) id).trans hqc
        obtain ⟨fn, tmps, assign, body, hy, hR⟩ := hbad off V o q (hJ off wr V hj (Kept.ofBelow bV _)) hlt hie hqV
        rw [hV] at hy
        gi_wp2_with fail
        rw [← hV]
        refine hR.mono ?_
        rintro e W3 ⟨rfl, hx⟩
        clear hy hR hV
        gi_wp2
        refine bodyPost_ret (results_none rfl _ _ _) rfl ?_
        exact ⟨⟨_, rfl⟩, .inr hx⟩
      | ok p len =>
        rw [hie] at h
        obtain ⟨a, c, ha, rfl, b3⟩ := h
        have hpl := ieAt_ok hie
        obtain ⟨V, hV⟩ : ∃ V, V = w3.alloc (.cells #[.int .u8 (R off : Int), .slice a len c, .int .i64 (off : Int), .int .i64 (p : Int)] 63) := ⟨_, rfl⟩
        have bV : Below wr.heap.size wr V := by rw [hV]; exact b3.alloc b3.size _
        have xV : Box V w3.heap.size [.int .u8 (R off : Int), .slice a len c, .int .i64 (off : Int), .int .i64 (p : Int)] := by rw [hV]; exact Box.new w3 _ _
        obtain ⟨fn, tmps, assign, body, hy, hR⟩ := hok off V p len a c (hJ off wr V hj (Kept.ofBelow bV _)) hlt hie ha
        rw [hV] at hy
        gi_wp2_with fail
        rw [← hV]
        refine hR.mono ?_
        have hnew : ¬ S w3.heap.size := fun h => by have := hSb _ h; have := b3.size; have := hk.size; omega
        rintro e W3 (⟨rfl, hj3, k3⟩ | ⟨rfl, hx⟩)
        · have x3 := xV.kept k3 hnew
          have i0 := x3.cell 0 _ rfl
          have i1 := x3.cell 1 _ rfl
          have i2 := x3.cell 2 _ rfl
          have i3 := x3.cell 3 _ rfl
          have bo3 := (bo.below bV).kept k3 h1
          have hend := end26 (R off : Int) a len c (off : Int) (p : Int) W3
          have hwr : wrap64 ((p : Int) + (len : Int)) = (p : Int) + (len : Int) := IntWalk.wrap64_in _ (by omega)
          rw [hwr] at hend
          clear hy hR hV
          gi_wp2_with fail
          refine ⟨trivial, (callsIn_wide.2 hend).mono ?_⟩
          rintro e W4 ⟨rfl, b4⟩
          have bo4 := bo3.below b4
          have o4 := bo4.cell 0 _ rfl
          have of4 := bo4.frz 0
          have bo5 := bo4.set1 0 (.int .i64 ((p : Int) + (len : Int))) (by simp)
          have k45 : Kept (· = ob) W3 (W4.setCell ⟨ob, 0, none⟩ (.int .i64 ((p : Int) + (len : Int)))) := Kept.setCell (S := (· = ob)) (Kept.ofBelow b4 _) (a := ⟨ob, 0, none⟩) (.inl rfl) _
          have k5 : Kept (fun k => S k ∨ k = ob) W (W4.setCell ⟨ob, 0, none⟩ (.int .i64 ((p : Int) + (len : Int)))) :=
            ((hk.trans (Kept.ofBelow bV _)).trans (k3.mono fun _ _ h => .inl h)).trans (k45.mono fun _ _ h => .inr h)
          clear hend
          gi_wp2_with fail
          go_roundw
          case rel => exact ⟨p + len, by simpa using bo5, hJ _ _ _ hj3 k45, k5⟩
          case measure =>
            have e1 : offOf (W4.setCell ⟨ob, 0, none⟩ (.int .i64 ((p : Int) + (len : Int)))) ob = p + len := by unfold offOf; rw [bo5.cell 0 _ rfl]; simp; omega
            have e2 : offOf wr ob = off := by unfold offOf; rw [co]; simp
            rw [e1, e2]
            omega
        · clear hy hR hV
          gi_wp2
          refine bodyPost_ret (results_none rfl _ _ _) rfl ?_
          exact ⟨⟨_, rfl⟩, .inr hx⟩
    · gi_wp2
      go_end0
      exact ⟨⟨_, rfl⟩, .inl ⟨off, by omega, hj⟩⟩
end Go.Proofs.YbulkcupaFmt
