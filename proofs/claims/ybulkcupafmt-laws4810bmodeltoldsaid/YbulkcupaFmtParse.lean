/- By an AI agent. No person has read it.
   ParseBVC (function 9) gives what the plain reading gives. -/
import Derived.Test.YbulkcupaFmtScan
import Derived.Test.YbulkcupaFmtLoop
namespace Go.Proofs.YbulkcupaFmt
open Go.RowKit Go.Extern.Stop Go.Stop Go.Extern Go.Shelf
attribute [local go_sem] Oper.semAt_some

/-- What the caller's own variables hold between two rounds. -/
structure Mid (w X : World) (out : Out) (R : Nat → Nat) (n off : Nat) (s : St) (k : Nat) (W : World) : Prop where
  fuel : n < off + k
  pos : 1 ≤ k
  run : scan R n k off s = out
  open_ : (s.hb && s.hc) = false
  r1 : Box W w.heap.size St.zero.cells
  r2 : Box W (w.heap.size + 1) [.nilIface]
  v : Box W (w.heap.size + 2) s.cells
  h : Box W (w.heap.size + 3) [.bool s.hb]
  kept : Kept (fun k => w.heap.size ≤ k) X W

/-- .. and behind a round that has left the loop. -/
def Left (w X : World) (out : Out) (c : Code) (W : World) : Prop :=
  Kept (fun k => w.heap.size ≤ k) X W ∧
  ((c = .ret ∧ ∃ o q, out = .fail o ∧ Box W w.heap.size St.zero.cells ∧ Box W (w.heap.size + 1) [.iface 48 (.pointer (some ⟨q, 0, none⟩))] ∧ W.cell? ⟨q, 0, none⟩ = some (.int .i64 (o : Int)) ∧ ¬ (X.heap.size ≤ q ∧ q < X.heap.size + 2)) ∨
   (c = .exit 0 ∧ ∃ s, out = .done s ∧ s.hb = true ∧ Box W w.heap.size St.zero.cells ∧ Box W (w.heap.size + 1) [.nilIface] ∧ Box W (w.heap.size + 2) s.cells ∧ Box W (w.heap.size + 3) [.bool true]))

theorem check_ok2 (i : Int) (a : Option Addr) (c : Nat) (o v : Int) (s : ByteArray) (w : World) :
    Calls Ybaf.prog 15 #[.agg #[.int .u8 i, .slice a (2 : Nat) c, .int .i64 o, .int .i64 v], .string s, .int .i64 2] w fun e w' => e = .returned .nilIface ∧ Below w.heap.size w w' := check_ok i a 2 c o v s w
theorem check_ok8 (i : Int) (a : Option Addr) (c : Nat) (o v : Int) (s : ByteArray) (w : World) :
    Calls Ybaf.prog 15 #[.agg #[.int .u8 i, .slice a (8 : Nat) c, .int .i64 o, .int .i64 v], .string s, .int .i64 8] w fun e w' => e = .returned .nilIface ∧ Below w.heap.size w w' := check_ok i a 8 c o v s w
theorem check_bad2 (F : Interp) (i : Int) (a : Option Addr) (l c : Nat) (o : Nat) (v : Int) (s : ByteArray) (w : World) (hF : F.answers w.tape) (hk : l ≠ 2) :
    Calls Ybaf.prog 15 #[.agg #[.int .u8 i, .slice a l c, .int .i64 (o : Int), .int .i64 v], .string s, .int .i64 2] w (ErrAt o w) := check_bad F i a l c o v s 2 w hF hk
theorem check_bad8 (F : Interp) (i : Int) (a : Option Addr) (l c : Nat) (o : Nat) (v : Int) (s : ByteArray) (w : World) (hF : F.answers w.tape) (hk : l ≠ 8) :
    Calls Ybaf.prog 15 #[.agg #[.int .u8 i, .slice a l c, .int .i64 (o : Int), .int .i64 v], .string s, .int .i64 8] w (ErrAt o w) := check_bad F i a l c o v s 8 w hF hk

/-- 'return BVC{}, err'. -/
theorem stored_err (r q o : Nat) (U : World) (d1 : Box U r St.zero.cells) (d2 : Box U (r + 1) [.nilIface]) (hq : U.cell? ⟨q, 0, none⟩ = some (.int .i64 (o : Int))) (hn : ¬ (r ≤ q ∧ q < r + 4)) :
    Kept (fun k => r ≤ k ∧ k < r + 4) U ((U.setCells r 0 St.zero.cells).setCell ⟨r + 1, 0, none⟩ (.iface 48 (.pointer (some ⟨q, 0, none⟩)))) ∧ Box ((U.setCells r 0 St.zero.cells).setCell ⟨r + 1, 0, none⟩ (.iface 48 (.pointer (some ⟨q, 0, none⟩)))) r St.zero.cells ∧
      Box ((U.setCells r 0 St.zero.cells).setCell ⟨r + 1, 0, none⟩ (.iface 48 (.pointer (some ⟨q, 0, none⟩)))) (r + 1) [.iface 48 (.pointer (some ⟨q, 0, none⟩))] ∧ ((U.setCells r 0 St.zero.cells).setCell ⟨r + 1, 0, none⟩ (.iface 48 (.pointer (some ⟨q, 0, none⟩)))).cell? ⟨q, 0, none⟩ = some (.int .i64 (o : Int)) := by
  have kE : Kept (fun k => r ≤ k ∧ k < r + 4) U ((U.setCells r 0 St.zero.cells).setCell ⟨r + 1, 0, none⟩ (.iface 48 (.pointer (some ⟨q, 0, none⟩)))) :=
    Kept.setCell (Kept.setCells r _ 0 (Kept.refl _ U) (.inl ⟨by omega, by omega⟩)) (a := ⟨r + 1, 0, none⟩) (.inl ⟨by show r ≤ r + 1; omega, by show r + 1 < r + 4; omega⟩) _
  refine ⟨kE, ?_, ?_, (kE.cell (p := ⟨q, 0, none⟩) (World.block_lt_of_cell? _ _ hq) hn).trans hq⟩
  · exact (d1.set St.zero.cells rfl).kept (S := (· = r + 1)) (Kept.setCell (S := (· = r + 1)) (a := ⟨r + 1, 0, none⟩) (Kept.refl _ _) (.inl rfl) _) (by show ¬ r = r + 1; omega)
  · exact (d2.kept (S := (· = r)) (Kept.setCells (S := (· = r)) r St.zero.cells 0 (Kept.refl _ U) (.inl rfl)) (by show ¬ r + 1 = r; omega)).set1 0 _ (by simp)

/-- ParseBVC's return: its results lie in two variables; the mark of the loop is taken up. -/
theorem leave9 (tmps : Array Value) (r1 r2 D : Nat) (s : St) (v2 : Value) (R : Ending → World → Prop) (E : World) (h2 : tmps[2]?.getD undef = .pointer (some ⟨r1, 0, none⟩)) (h3 : tmps[3]?.getD undef = .pointer (some ⟨r2, 0, none⟩)) (hK : E.heap[D]? = some (.deferred (some [])))
    (b1 : Box E r1 s.cells) (b2 : Box E r2 [v2]) (n1 : r1 ≠ D) (n2 : r2 ≠ D) (hR : R (.returned (.tuple #[.agg s.cells.toArray, v2])) (E.putObj D (.deferred none))) :
    LeavesInM Fence.wide 3 Ybaf.prog Ybaf.f9 tmps R [{ target := .collected D, args := #[] }] .returning E := by
  refine ⟨by simp, .inl ⟨D, _, rfl, run_takeDeferred hK, ?_⟩⟩
  have kk : Kept (· = D) E (E.putObj D (.deferred none)) := Kept.putObj (S := (· = D)) (Kept.refl _ _) (.inl rfl) _
  have c1 := b1.kept kk n1
  have c2 := b2.kept kk n2
  have y0 := c1.cell 0 _ rfl
  have y1 := c1.cell 1 _ rfl
  have y2 := c1.cell 2 _ rfl
  have y3 := c1.cell 3 _ rfl
  have y4 := c1.cell 4 _ rfl
  have y5 := c1.cell 5 _ rfl
  have y6 := c1.cell 6 _ rfl
  have z0 := c2.cell 0 _ rfl
  refine ⟨.tuple #[.agg s.cells.toArray, v2], ?_, hR⟩
  simp [results, Ybaf.results9, go_sem, h2, h3, y0, y1, y2, y3, y4, y5, y6, z0, St.cells]

set_option maxRecDepth 100000 in
set_option maxHeartbeats 8000000 in
theorem parse_any (F : Interp) (g n cap : Nat) (R : Nat → Nat) (w : World) (hF : F.answers w.tape) (hT : Table w) (hp : Pdu w g n R) (hcap : n ≤ cap) :
    Calls Ybaf.prog 9 #[.slice (some ⟨g, 0, none⟩) n cap] w (Parsed (scan R n (n + 1) 1 St.zero) w) := by
  obtain ⟨out, hout⟩ : ∃ out, out = scan R n (n + 1) 1 St.zero := ⟨_, rfl⟩
  rw [← hout]
  obtain ⟨X, hX⟩ : ∃ X, X = (((((w.alloc (.cells #[.int .u16 0, .string ⟨#[]⟩, .string ⟨#[]⟩, .int .u16 0, .int .u8 0, .int .u16 0, .bool false] 40)).alloc (.cells #[.nilIface] 42)).alloc (.cells #[.int .u16 0, .string ⟨#[]⟩, .string ⟨#[]⟩, .int .u16 0, .int .u8 0, .int .u16 0, .bool false] 40)).alloc (.cells #[.bool false] 4)).alloc
      (.cells #[.slice (some ⟨g, 0, none⟩) n cap] 30)).alloc (.cells #[.int .i64 1] 3) := ⟨_, rfl⟩
  have kX : Kept (fun _ => False) w X := by rw [hX]; exact ((((((Kept.refl _ w).alloc _).alloc _).alloc _).alloc _).alloc _).alloc _
  have zX : X.heap.size = w.heap.size + 6 := by rw [hX]; simp
  have x0 : Box X w.heap.size St.zero.cells := by rw [hX]; exact (((((Box.new w _ _).alloc _).alloc _).alloc _).alloc _).alloc _
  have x1 : Box X (w.heap.size + 1) [.nilIface] := by
    rw [hX]
    have := Box.new (w.alloc (.cells #[.int .u16 0, .string ⟨#[]⟩, .string ⟨#[]⟩, .int .u16 0, .int .u8 0, .int .u16 0, .bool false] 40)) #[.nilIface] 42
    rw [World.size_alloc] at this
    exact (((this.alloc _).alloc _).alloc _).alloc _
  have x2 : Box X (w.heap.size + 2) St.zero.cells := by
    rw [hX]
    have := Box.new ((w.alloc (.cells #[.int .u16 0, .string ⟨#[]⟩, .string ⟨#[]⟩, .int .u16 0, .int .u8 0, .int .u16 0, .bool false] 40)).alloc (.cells #[.nilIface] 42)) #[.int .u16 0, .string ⟨#[]⟩, .string ⟨#[]⟩, .int .u16 0, .int .u8 0, .int .u16 0, .bool false] 40
    rw [World.size_alloc, World.size_alloc] at this
    exact ((this.alloc _).alloc _).alloc _
  have x3 : Box X (w.heap.size + 3) [.bool false] := by
    rw [hX]
    have := Box.new (((w.alloc (.cells #[.int .u16 0, .string ⟨#[]⟩, .string ⟨#[]⟩, .int .u16 0, .int .u8 0, .int .u16 0, .bool false] 40)).alloc (.cells #[.nilIface] 42)).alloc (.cells #[.int .u16 0, .string ⟨#[]⟩, .string ⟨#[]⟩, .int .u16 0, .int .u8 0, .int .u16 0, .bool false] 40)) #[.bool false] 4
    rw [World.size_alloc, World.size_alloc, World.size_alloc] at this
    exact (this.alloc _).alloc _
  have x4 : Box X (w.heap.size + 4) [.slice (some ⟨g, 0, none⟩) n cap] := by
    rw [hX]
    have := Box.new ((((w.alloc (.cells #[.int .u16 0, .string ⟨#[]⟩, .string ⟨#[]⟩, .int .u16 0, .int .u8 0, .int .u16 0, .bool false] 40)).alloc (.cells #[.nilIface] 42)).alloc (.cells #[.int .u16 0, .string ⟨#[]⟩, .string ⟨#[]⟩, .int .u16 0, .int .u8 0, .int .u16 0, .bool false] 40)).alloc (.cells #[.bool false] 4)) #[.slice (some ⟨g, 0, none⟩) n cap] 30
    rw [World.size_alloc, World.size_alloc, World.size_alloc, World.size_alloc] at this
    exact this.alloc _
  have x5 : Box X (w.heap.size + 5) [.int .i64 1] := by
    rw [hX]
    have := Box.new (((((w.alloc (.cells #[.int .u16 0, .string ⟨#[]⟩, .string ⟨#[]⟩, .int .u16 0, .int .u8 0, .int .u16 0, .bool false] 40)).alloc (.cells #[.nilIface] 42)).alloc (.cells #[.int .u16 0, .string ⟨#[]⟩, .string ⟨#[]⟩, .int .u16 0, .int .u8 0, .int .u16 0, .bool false] 40)).alloc (.cells #[.bool false] 4)).alloc (.cells #[.slice (some ⟨g, 0, none⟩) n cap] 30)) #[.int .i64 1] 3
    rw [World.size_alloc, World.size_alloc, World.size_alloc, World.size_alloc, World.size_alloc] at this
    exact this
  have hpX := hp.kept kX id
  have zX1 : X.heap.size ≤ w.heap.size + 6 := by omega
  have zX2 : w.heap.size + 6 ≤ X.heap.size := by omega
  clear zX
  have hlt := hp.lt
  refine (callsIn_wide (n := 3)).1 ?_
  refine callsIn_of_wp_marks Ybaf.func9 rfl trivial ?_ rfl
  simp only [Ybaf.ntmps9, List.size_toArray, List.length_cons, List.length_nil, Nat.reduceAdd, Nat.reduceSub, Array.replicate_succ, Array.replicate_zero, List.push_toArray, List.append_toArray, List.nil_append, List.cons_append]
  gi_wp2_with fail
  refine ⟨trivial, (callsIn_wide.2 (ies_any (some ⟨g, 0, none⟩) n cap 1 _)).mono ?_⟩
  rintro e w1 ⟨rfl, rfl⟩
  gi_wp2_with fail
  rw [← hX]
  clear hX
  refine range_ies F (w.heap.size + 5) (w.heap.size + 4) g n cap R (by omega) rfl rfl (fun k => w.heap.size ≤ k ∧ k < w.heap.size + 4) (fun off W => ∃ s k, Mid w X out R n off s k W) (Left w X out) (by omega) (by omega) (by omega) (fun k h => by omega) (by omega) (by omega) hcap ?hI ?hIx hpX x5 x4 (by rw [kX.tape]; exact hF)
    ⟨St.zero, n + 1, by omega, by omega, hout.symm, rfl, x0, x1, x2, x3, Kept.refl _ _⟩ ?hok ?hbad ?hdone ?hstop
  case hI =>
    rintro off W W' ⟨s, k, m⟩ kk
    have := kX.size
    exact ⟨s, k, m.fuel, m.pos, m.run, m.open_, m.r1.kept kk (by omega), m.r2.kept kk (by omega), m.v.kept kk (by omega), m.h.kept kk (by omega), m.kept.trans (kk.mono fun k _ h => by omega)⟩
  case hIx =>
    rintro c W W' ⟨m, h⟩ kk
    refine ⟨m.trans (kk.mono fun k _ h => by omega), ?_⟩
    rcases h with ⟨rfl, o, q, ho, b1, b2, hq, hn⟩ | ⟨rfl, s, ho, hh, b1, b2, b3, b4⟩
    · exact .inl ⟨rfl, o, q, ho, b1.kept kk (by omega), b2.kept kk (by omega), (kk.cell (p := ⟨q, 0, none⟩) (World.block_lt_of_cell? _ _ hq) hn).trans hq, hn⟩
    · exact   .inr ⟨rfl, s, ho, hh, b1.kept kk (by omega), b2.kept kk (by omega), b3.kept kk (by omega), b4.kept kk (by omega)⟩
  case hok =>
    clear hout
    rintro l off V p len aa c hl1 hl2 hV ⟨s, k, m⟩ hlt' hie ha
    obtain ⟨k', rfl⟩ : ∃ k', k = k' + 1 := ⟨k - 1, by have := m.pos; omega⟩
    have hrun := m.run
    rw [scan, if_neg (by omega), hie] at hrun
    simp only at hrun
    have hfuel := m.fuel
    have hpl := ieAt_ok hie
    gi_wp2_with fail
    refine ⟨Kept.alloc (Kept.refl _ V) _, fun Y kY => ?_⟩
    have kV : Kept (· = l) V Y := (Kept.mono (Kept.alloc (Kept.refl (fun _ => False) V) _) fun _ _ h => h.elim).trans kY
    have b1 := m.r1.kept kV (by omega)
    have b2 := m.r2.kept kV (by omega)
    have bv := m.v.kept kV (by omega)
    have bh := m.h.kept kV (by omega)
    have bi := (Box.new V #[.int .u8 (R off : Int), .slice aa len c, .int .i64 (off : Int), .int .i64 (p : Int)] 63).kept kY (by omega)
    have mk : Kept (fun k => w.heap.size ≤ k) X Y := m.kept.trans (kV.mono fun k _ h => by omega)
    have hpY := hpX.kept mk (by omega)
    have hTY : Table Y := ⟨by have := hT.1; have := mk.size; omega, fun i hi => ((kX.mono fun _ _ h => h.elim).trans mk |>.cell (p := ⟨2, i, none⟩) hT.1 (by show ¬ w.heap.size ≤ 2; have := hT.1; omega)).trans (hT.2 i hi)⟩
    have hFY : F.answers Y.tape := by rw [mk.tape, kX.tape]; exact hF
    have i0 := bi.cell 0 _ rfl
    have i1 := bi.cell 1 _ rfl
    have i2 := bi.cell 2 _ rfl
    have i3 := bi.cell 3 _ rfl
    have h0 := bh.cell 0 _ rfl
    have v6 := bv.cell 6 _ rfl
    have hopen := m.open_
    by_cases hA : R off = 4 ∧ s.hb = false
    · rw [stepIe, if_pos hA] at hrun
      obtain ⟨h4, hhb⟩ := hA
      have q4 : ((R off : Int) == 4) = true := by simp [h4]
      rw [hhb] at h0
      clear h4
      by_cases hl2' : len = 2
      · subst hl2'
        obtain ⟨rfl, hc2⟩ := ha (by omega)
        simp only [if_true] at hrun
        have hbp := hpY.byte p (by omega)
        have hbp1 := hpY.byte (p + 1) (by omega)
        gi_wp2_with fail
        refine ⟨trivial, (CallsIn.inRound l (callsIn_wide.2 (check_ok2 (R off : Int) (some ⟨g, p, none⟩) c (off : Int) (p : Int) _ Y))).mono ?_⟩
        rintro e U ⟨rfl, bU⟩
        have j1 := (bi.below bU).cell 1 _ rfl
        have hpU := hpY.below bU
        have hU16 := uint16 g p 2 c (R p) (R (p + 1)) U hpU.lt (by omega) (hpU.cell p (by omega)) (hpU.cell (p + 1) (by omega)) hbp hbp1
        gi_wp2_with fail
        refine ⟨trivial, (CallsIn.inRound l (callsIn_wide.2 hU16)).mono ?_⟩
        rintro e U2 ⟨rfl, q, hU2⟩
        have bU2 : Below U.heap.size U U2 := by rw [hU2]; exact below_drewN (by go_grown) q
        clear hU2 hU16
        have dv := (bv.below bU).below bU2
        have dh := (bh.below bU).below bU2
        have dv0 := dv.cell 0 _ rfl
        have dvf := dv.frz 0
        have dh0 := dh.cell 0 _ rfl
        have dhf := dh.frz 0
        have ev := (dv.set1 0 (.int .u16 ((R p : Int) * 256 + R (p + 1))) (by simp [St.cells])).kept (S := (· = w.heap.size + 3)) (Kept.setCell (S := (· = w.heap.size + 3)) (a := ⟨w.heap.size + 3, 0, none⟩) (Kept.refl _ _) (.inl rfl) (.bool true)) (by show ¬ w.heap.size + 2 = w.heap.size + 3; omega)
        have eh := (dh.kept (S := (· = w.heap.size + 2)) (Kept.setCell (S := (· = w.heap.size + 2)) (a := ⟨w.heap.size + 2, 0, none⟩) (Kept.refl _ _) (.inl rfl) (.int .u16 ((R p : Int) * 256 + R (p + 1)))) (by show ¬ w.heap.size + 3 = w.heap.size + 2; omega)).set1 0 (.bool true) (by simp)
        have kE : Kept (fun k => w.heap.size ≤ k ∧ k < w.heap.size + 4) U2 ((U2.setCell ⟨w.heap.size + 2, 0, none⟩ (.int .u16 ((R p : Int) * 256 + R (p + 1)))).setCell ⟨w.heap.size + 3, 0, none⟩ (.bool true)) :=
          Kept.setCell (Kept.setCell (Kept.refl _ U2) (a := ⟨w.heap.size + 2, 0, none⟩) (.inl ⟨by show w.heap.size ≤ w.heap.size + 2; omega, by show w.heap.size + 2 < w.heap.size + 4; omega⟩) _) (a := ⟨w.heap.size + 3, 0, none⟩) (.inl ⟨by show w.heap.size ≤ w.heap.size + 3; omega, by show w.heap.size + 3 < w.heap.size + 4; omega⟩) _
        have kYE := ((Kept.ofBelow bU (fun k => w.heap.size ≤ k ∧ k < w.heap.size + 4)).trans (Kept.ofBelow bU2 _)).trans kE
        have mE : Kept (fun k => w.heap.size ≤ k) X _ := mk.trans (kYE.mono fun k _ h => h.1)
        have d1 := ((b1.below bU).below bU2)
        have d2 := ((b2.below bU).below bU2)
        have k12 : Kept (fun k => k = w.heap.size + 2 ∨ k = w.heap.size + 3) U2 ((U2.setCell ⟨w.heap.size + 2, 0, none⟩ (.int .u16 ((R p : Int) * 256 + R (p + 1)))).setCell ⟨w.heap.size + 3, 0, none⟩ (.bool true)) :=
          Kept.setCell (Kept.setCell (Kept.refl _ U2) (a := ⟨w.heap.size + 2, 0, none⟩) (.inl (.inl rfl)) _) (a := ⟨w.heap.size + 3, 0, none⟩) (.inl (.inr rfl)) _
        have f1 := d1.kept k12 (by omega)
        have f2 := d2.kept k12 (by omega)
        have eh0 := eh.cell 0 _ rfl
        have ev6 := ev.cell 6 _ rfl
        clear kE k12 bU bU2 d1 d2
        cases hhc : s.hc with
        | true =>
          rw [hhc] at ev6 hrun
          simp only [Bool.and_self, if_true] at hrun
          gi_wp2_with fail
          exact ⟨kYE, mE, .inr ⟨rfl, _, hrun.symm, rfl, f1, f2, by simpa [St.cells, hhc] using ev, by simpa using eh⟩⟩
        | false =>
          rw [hhc] at ev6 hrun
          simp only [Bool.and_false, Bool.false_eq_true, if_false] at hrun
          gi_wp2_with fail
          exact ⟨kYE, _, k', by omega, by omega, hrun, by simp, f1, f2, by simpa [St.cells, hhc] using ev, by simpa using eh, mE⟩
      · simp only [hl2', if_false] at hrun
        gi_wp2_with fail
        refine ⟨trivial, (CallsIn.inRound l (callsIn_wide.2 (check_bad2 F (R off : Int) aa len c off (p : Int) _ Y hFY hl2'))).mono ?_⟩
        rintro e U ⟨q, rfl, hq1, hq, bU⟩
        have d1 := b1.below bU
        have d2 := b2.below bU
        have u0 := d1.cell 0 _ rfl
        have u1 := d1.cell 1 _ rfl
        have u2 := d1.cell 2 _ rfl
        have u3 := d1.cell 3 _ rfl
        have u4 := d1.cell 4 _ rfl
        have u5 := d1.cell 5 _ rfl
        have u6 := d1.cell 6 _ rfl
        have uf := d1.frz
        have v0 := d2.cell 0 _ rfl
        have vf := d2.frz
        obtain ⟨kE, e1, e2, qE⟩ := stored_err (w.heap.size) q off U d1 d2 hq (by have := mk.size; omega)
        have mE : Kept (fun k => w.heap.size ≤ k) X _ := (mk.trans (Kept.ofBelow bU _)).trans (kE.mono fun k _ h => h.1)
        have kE' : Kept (fun k => w.heap.size ≤ k ∧ k < w.heap.size + 4) Y _ := (Kept.ofBelow bU _).trans kE
        simp only [St.zero, Cl.zero] at u0 u1 u2 u3 u4 u5 u6
        have hqn : ¬ (X.heap.size ≤ q ∧ q < X.heap.size + 2) := by have := kV.size; omega
        clear kE bU
        gi_wp2_with fail
        exact ⟨kE', mE, .inl ⟨rfl, off, q, hrun.symm, e1, e2, qE, hqn⟩⟩
    · by_cases hB : R off = 8 ∧ s.hc = false
      · rw [stepIe, if_neg hA, if_pos hB] at hrun
        obtain ⟨h8, hhc⟩ := hB
        have q4 : ((R off : Int) == 4) = false := by simp [h8]
        have q8 : ((R off : Int) == 8) = true := by simp [h8]
        rw [hhc] at v6
        clear h8 hA
        by_cases hl8 : len = 8
        · subst hl8
          obtain ⟨rfl, hc8⟩ := ha (by omega)
          simp only [if_true] at hrun
          gi_wp2_with fail
          refine ⟨trivial, (CallsIn.inRound l (callsIn_wide.2 (check_ok8 (R off : Int) (some ⟨g, p, none⟩) c (off : Int) (p : Int) _ Y))).mono ?_⟩
          rintro e U ⟨rfl, bU⟩
          have j1 := (bi.below bU).cell 1 _ rfl
          have j3 := (bi.below bU).cell 3 _ rfl
          have hpU := hpY.below bU
          have hC := cell_any F g p c p (fun j => R (p + j)) U (by rw [bU.tape]; exact hFY) ⟨by have := hTY.1; have := bU.size; omega, fun i hi => (bU.cell (p := ⟨2, i, none⟩) hTY.1).trans (hTY.2 i hi)⟩ hpU.lt hc8 (by have := hpU.len; omega) (fun j hj => hpU.byte (p + j) (by omega)) (fun j hj => hpU.cell (p + j) (by omega))
          gi_wp2_with fail
          refine ⟨trivial, (CallsIn.inRound l (callsIn_wide.2 hC)).mono ?_⟩
          rintro e U2 ⟨he, bU2⟩
          clear hC
          have dv := (bv.below bU).below bU2
          have dh := (bh.below bU).below bU2
          have dv1 := dv.cell 1 _ rfl
          have dv2 := dv.cell 2 _ rfl
          have dv3 := dv.cell 3 _ rfl
          have dv4 := dv.cell 4 _ rfl
          have dv5 := dv.cell 5 _ rfl
          have dv6 := dv.cell 6 _ rfl
          have dvf := dv.frz
          cases hbd : badDig (R p) (R (p + 1)) (R (p + 2)) with
          | some i =>
            have he' : ∃ q, e = .returned (.tuple #[.agg #[.string ⟨#[]⟩, .string ⟨#[]⟩, .int .u16 0, .int .u8 0, .int .u16 0], .iface 48 (.pointer (some ⟨q, 0, none⟩))]) ∧ U.heap.size ≤ q ∧ U2.cell? ⟨q, 0, none⟩ = some (.int .i64 ((p + octet i : Nat) : Int)) := by
              have : badDig ((fun j => R (p + j)) 0) ((fun j => R (p + j)) 1) ((fun j => R (p + j)) 2) = some i := hbd
              rw [this] at he
              exact he
            clear he
            obtain ⟨q, rfl, hq1, hq⟩ := he'
            rw [hbd] at hrun
            simp only at hrun
            obtain ⟨Z, hZ⟩ : ∃ Z, Z = U2.setCells (w.heap.size + 2) 1 [.string ⟨#[]⟩, .string ⟨#[]⟩, .int .u16 0, .int .u8 0, .int .u16 0] := ⟨_, rfl⟩
            have kZ : Kept (· = w.heap.size + 2) U2 Z := by rw [hZ]; exact Kept.setCells (S := (· = w.heap.size + 2)) _ _ _ (Kept.refl _ _) (.inl rfl)
            have zU := bU.size
            have zm := mk.size
            have zU2 := bU2.size
            have d1 := ((b1.below bU).below bU2).kept kZ (by omega)
            have d2 := ((b2.below bU).below bU2).kept kZ (by omega)
            have hqZ := (kZ.cell (p := ⟨q, 0, none⟩) (World.block_lt_of_cell? _ _ hq) (by show ¬ q = w.heap.size + 2; omega)).trans hq
            obtain ⟨kE, e1, e2, qE⟩ := stored_err (w.heap.size) q (p + octet i) Z d1 d2 hqZ (by omega)
            have kYE : Kept (fun k => w.heap.size ≤ k ∧ k < w.heap.size + 4) Y _ := (((Kept.ofBelow bU _).trans (Kept.ofBelow bU2 _)).trans (kZ.mono fun k _ h => by omega)).trans kE
            have mE : Kept (fun k => w.heap.size ≤ k) X _ := mk.trans (kYE.mono fun k _ h => h.1)
            have hqn : ¬ (X.heap.size ≤ q ∧ q < X.heap.size + 2) := by have := kV.size; omega
            rw [hZ] at d1 d2 kYE mE e1 e2 qE
            simp only [World.setCells, Nat.reduceAdd] at d1 d2
            have u0 := d1.cell 0 _ rfl
            have u1 := d1.cell 1 _ rfl
            have u2 := d1.cell 2 _ rfl
            have u3 := d1.cell 3 _ rfl
            have u4 := d1.cell 4 _ rfl
            have u5 := d1.cell 5 _ rfl
            have u6 := d1.cell 6 _ rfl
            have uf := d1.frz
            have v0 := d2.cell 0 _ rfl
            have vf := d2.frz
            simp only [St.zero, Cl.zero] at u0 u1 u2 u3 u4 u5 u6
            clear kE bU bU2 kZ hZ
            gi_wp2_with fail
            exact ⟨kYE, mE, .inl ⟨rfl, _, q, hrun.symm, e1, e2, qE, hqn⟩⟩
          | none =>
            obtain ⟨C, hC⟩ : ∃ C, C = Cl.of fun j => R (p + j) := ⟨_, rfl⟩
            have he' : e = .returned (.tuple #[.agg #[.string C.m1, .string C.m2, .int .u16 C.lac, .int .u8 C.rac, .int .u16 C.ci], .nilIface]) := by
              have : badDig ((fun j => R (p + j)) 0) ((fun j => R (p + j)) 1) ((fun j => R (p + j)) 2) = none := hbd
              rw [this] at he
              rw [hC]
              exact he
            subst he'
            rw [hbd] at hrun
            simp only at hrun
            rw [← hC] at hrun
            clear he hC
            have ev := (((((dv.set1 1 (.string C.m1) (by simp [St.cells])).set1 2 (.string C.m2) (by simp [St.cells])).set1 3 (.int .u16 C.lac) (by simp [St.cells])).set1 4 (.int .u8 C.rac) (by simp [St.cells])).set1 5 (.int .u16 C.ci) (by simp [St.cells])).set1 6 (.bool true) (by simp [St.cells])
            have kE : Kept (· = w.heap.size + 2) U2 ((U2.setCells (w.heap.size + 2) 1 [.string C.m1, .string C.m2, .int .u16 C.lac, .int .u8 C.rac, .int .u16 C.ci]).setCell ⟨w.heap.size + 2, 6, none⟩ (.bool true)) :=
              Kept.setCell (S := (· = w.heap.size + 2)) (Kept.setCells (S := (· = w.heap.size + 2)) _ _ _ (Kept.refl _ _) (.inl rfl)) (a := ⟨w.heap.size + 2, 6, none⟩) (.inl rfl) _
            simp only [World.setCells, Nat.reduceAdd] at kE
            have kYE : Kept (fun k => w.heap.size ≤ k ∧ k < w.heap.size + 4) Y _ := ((Kept.ofBelow bU _).trans (Kept.ofBelow bU2 _)).trans (kE.mono fun k _ h => by omega)
            have mE : Kept (fun k => w.heap.size ≤ k) X _ := mk.trans (kYE.mono fun k _ h => h.1)
            have f1 := ((b1.below bU).below bU2).kept kE (by omega)
            have f2 := ((b2.below bU).below bU2).kept kE (by omega)
            have eh := dh.kept kE (by omega)
            have eh0 := eh.cell 0 _ rfl
            have ev6 := ev.cell 6 _ rfl
            clear kE bU bU2
            cases hhb : s.hb with
            | true =>
              rw [hhb] at eh0 hrun
              simp only [Bool.and_self, if_true] at hrun
              gi_wp2_with fail
              exact ⟨kYE, mE, .inr ⟨rfl, _, hrun.symm, rfl, f1, f2, by simpa [St.cells] using ev, by simpa [hhb] using eh⟩⟩
            | false =>
              rw [hhb] at eh0 hrun
              simp only [Bool.false_and, Bool.false_eq_true, if_false] at hrun
              gi_wp2_with fail
              exact ⟨kYE, _, k', by omega, by omega, hrun, by simp, f1, f2, by simpa [St.cells] using ev, by simpa [hhb] using eh, mE⟩
        · simp only [hl8, if_false] at hrun
          gi_wp2_with fail
          refine ⟨trivial, (CallsIn.inRound l (callsIn_wide.2 (check_bad8 F (R off : Int) aa len c off (p : Int) _ Y hFY hl8))).mono ?_⟩
          rintro e U ⟨q, rfl, hq1, hq, bU⟩
          have d1 := b1.below bU
          have d2 := b2.below bU
          have u0 := d1.cell 0 _ rfl
          have u1 := d1.cell 1 _ rfl
          have u2 := d1.cell 2 _ rfl
          have u3 := d1.cell 3 _ rfl
          have u4 := d1.cell 4 _ rfl
          have u5 := d1.cell 5 _ rfl
          have u6 := d1.cell 6 _ rfl
          have uf := d1.frz
          have v0 := d2.cell 0 _ rfl
          have vf := d2.frz
          obtain ⟨kE, e1, e2, qE⟩ := stored_err (w.heap.size) q off U d1 d2 hq (by have := mk.size; omega)
          have mE : Kept (fun k => w.heap.size ≤ k) X _ := (mk.trans (Kept.ofBelow bU _)).trans (kE.mono fun k _ h => h.1)
          have kE' : Kept (fun k => w.heap.size ≤ k ∧ k < w.heap.size + 4) Y _ := (Kept.ofBelow bU _).trans kE
          simp only [St.zero, Cl.zero] at u0 u1 u2 u3 u4 u5 u6
          have hqn : ¬ (X.heap.size ≤ q ∧ q < X.heap.size + 2) := by have := kV.size; omega
          clear kE bU
          gi_wp2_with fail
          exact ⟨kE', mE, .inl ⟨rfl, off, q, hrun.symm, e1, e2, qE, hqn⟩⟩
      · rw [stepIe, if_neg hA, if_neg hB] at hrun
        simp only [hopen, Bool.false_eq_true, if_false] at hrun
        have hfin : Kept (fun k => w.heap.size ≤ k ∧ k < w.heap.size + 4) Y Y ∧ ∃ s k, Mid w X out R n (p + len) s k Y := ⟨Kept.refl _ _, s, k', by omega, by omega, hrun, hopen, b1, b2, bv, bh, mk⟩
        clear hpX hpY hTY mk m
        by_cases h4 : R off = 4
        · have h8 : R off ≠ 8 := by omega
          have hhb : s.hb = true := by cases h : s.hb with | true => rfl | false => exact absurd ⟨h4, h⟩ hA
          have hhc : s.hc = false := by rw [hhb] at hopen; simpa using hopen
          rw [hhb] at h0
          rw [hhc] at v6
          gi_wp2_with fail
          exact hfin
        · by_cases h8 : R off = 8
          · have hhc : s.hc = true := by cases h : s.hc with | true => rfl | false => exact absurd ⟨h8, h⟩ hB
            have hhb : s.hb = false := by rw [hhc] at hopen; simpa using hopen
            rw [hhb] at h0
            rw [hhc] at v6
            gi_wp2_with fail
            exact hfin
          · cases hhb : s.hb with
            | false =>
              rw [hhb] at h0
              gi_wp2_with fail
              exact hfin
            | true =>
              have hhc : s.hc = false := by rw [hhb] at hopen; simpa using hopen
              rw [hhb] at h0
              rw [hhc] at v6
              gi_wp2_with fail
              exact hfin
  case hbad =>
    clear hout
    rintro l off V o q hl1 hl2 hV ⟨s, k, m⟩ hlt' hie hq hn
    obtain ⟨k', rfl⟩ : ∃ k', k = k' + 1 := ⟨k - 1, by have := m.pos; omega⟩
    have hrun := m.run
    rw [scan, if_neg (by omega), hie] at hrun
    gi_wp2_with fail
    refine ⟨Kept.alloc (Kept.refl _ V) _, fun Y kY => ?_⟩
    have kV : Kept (· = l) V Y := (Kept.mono (Kept.alloc (Kept.refl (fun _ => False) V) _) fun _ _ h => h.elim).trans kY
    have b1 := m.r1.kept kV (by omega)
    have b2 := m.r2.kept kV (by omega)
    have mk : Kept (fun k => w.heap.size ≤ k) X Y := m.kept.trans (kV.mono fun k _ h => by omega)
    have qY := (kV.cell (p := ⟨q, 0, none⟩) (World.block_lt_of_cell? _ _ hq) (by show ¬ q = l; omega)).trans hq
    have u0 := b1.cell 0 _ rfl
    have u1 := b1.cell 1 _ rfl
    have u2 := b1.cell 2 _ rfl
    have u3 := b1.cell 3 _ rfl
    have u4 := b1.cell 4 _ rfl
    have u5 := b1.cell 5 _ rfl
    have u6 := b1.cell 6 _ rfl
    have uf := b1.frz
    have v0 := b2.cell 0 _ rfl
    have vf := b2.frz
    have c1 := b1.set St.zero.cells rfl
    have kE : Kept (fun k => w.heap.size ≤ k ∧ k < w.heap.size + 4) Y ((Y.setCells w.heap.size 0 St.zero.cells).setCell ⟨w.heap.size + 1, 0, none⟩ (.iface 48 (.pointer (some ⟨q, 0, none⟩)))) :=
      Kept.setCell (Kept.setCells w.heap.size _ 0 (Kept.refl _ Y) (.inl ⟨by omega, by omega⟩)) (a := ⟨w.heap.size + 1, 0, none⟩) (.inl ⟨by show w.heap.size ≤ w.heap.size + 1; omega, by show w.heap.size + 1 < w.heap.size + 4; omega⟩) _
    have e1 := c1.kept (S := (· = w.heap.size + 1)) (Kept.setCell (S := (· = w.heap.size + 1)) (a := ⟨w.heap.size + 1, 0, none⟩) (Kept.refl _ _) (.inl rfl) (.iface 48 (.pointer (some ⟨q, 0, none⟩)))) (by show ¬ w.heap.size = w.heap.size + 1; omega)
    have e2 := (b2.kept (S := (· = w.heap.size)) (Kept.setCells (S := (· = w.heap.size)) w.heap.size St.zero.cells 0 (Kept.refl _ Y) (.inl rfl)) (by show ¬ w.heap.size + 1 = w.heap.size; omega)).set1 0 (.iface 48 (.pointer (some ⟨q, 0, none⟩))) (by simp)
    have hqn : ¬ (w.heap.size ≤ q ∧ q < w.heap.size + 4) := by
      rintro ⟨ha, hb⟩
      obtain rfl | rfl | rfl | rfl : q = w.heap.size ∨ q = w.heap.size + 1 ∨ q = w.heap.size + 2 ∨ q = w.heap.size + 3 := by omega
      · rw [m.r1.cell 0 _ rfl] at hq; cases hq
      · rw [m.r2.cell 0 _ rfl] at hq; cases hq
      · rw [m.v.cell 0 _ rfl] at hq; cases hq
      · rw [m.h.cell 0 _ rfl] at hq; cases hq
    have qE := (kE.cell (p := ⟨q, 0, none⟩) (World.block_lt_of_cell? _ _ qY) hqn).trans qY
    simp only [St.zero, Cl.zero] at u0 u1 u2 u3 u4 u5 u6
    gi_wp2_with fail
    exact ⟨kE, mk.trans (kE.mono fun k _ h => h.1), .inl ⟨rfl, o, q, hrun.symm, e1, e2, qE, hn⟩⟩
  case hdone =>
    clear hout
    rintro off W hoff ⟨s, k, m⟩ hK
    obtain ⟨k', rfl⟩ : ∃ k', k = k' + 1 := ⟨k - 1, by have := m.pos; omega⟩
    have hrun := m.run
    rw [scan, if_pos hoff] at hrun
    have hc := m.h.cell 0 _ rfl
    have hbw : Below w.heap.size w W := (kX.below (fun _ h => h.elim) (Nat.le_refl _)).trans (m.kept.below (fun _ h => h) (by omega))
    have zW := m.kept.size
    cases hhb : s.hb with
    | false =>
      rw [hhb] at hc hrun
      simp only [Bool.false_eq_true, if_false] at hrun
      gi_wp2_with fail
      refine ⟨trivial, (callsIn_wide.2 (err_missing F n W (by rw [m.kept.tape, kX.tape]; exact hF))).mono ?_⟩
      rintro e U ⟨t, rfl, hU⟩
      have bU : Below W.heap.size W U := by rw [hU]; go_grown
      have qU : U.cell? ⟨W.heap.size, 0, none⟩ = some (.int .i64 (n : Int)) := by rw [hU]; go_simp
      clear hU
      have b1 := m.r1.below bU
      have b2 := m.r2.below bU
      have u0 := b1.cell 0 _ rfl
      have u1 := b1.cell 1 _ rfl
      have u2 := b1.cell 2 _ rfl
      have u3 := b1.cell 3 _ rfl
      have u4 := b1.cell 4 _ rfl
      have u5 := b1.cell 5 _ rfl
      have u6 := b1.cell 6 _ rfl
      have uf := b1.frz
      have v0 := b2.cell 0 _ rfl
      have vf := b2.frz
      have c1 := b1.set St.zero.cells rfl
      have kE : Kept (fun k => k = w.heap.size ∨ k = w.heap.size + 1) U ((U.setCells w.heap.size 0 St.zero.cells).setCell ⟨w.heap.size + 1, 0, none⟩ (.iface 48 (.pointer (some ⟨W.heap.size, 0, none⟩)))) :=
        (Kept.setCells w.heap.size _ 0 (Kept.refl _ U) (.inl (.inl rfl))).setCell (a := ⟨w.heap.size + 1, 0, none⟩) (.inl (.inr rfl)) _
      have e1 := c1.kept (S := (· = w.heap.size + 1)) (Kept.setCell (S := (· = w.heap.size + 1)) (a := ⟨w.heap.size + 1, 0, none⟩) (Kept.refl _ _) (.inl rfl) (.iface 48 (.pointer (some ⟨W.heap.size, 0, none⟩)))) (by show ¬ w.heap.size = w.heap.size + 1; omega)
      have e2 := (b2.kept (S := (· = w.heap.size)) (Kept.setCells (S := (· = w.heap.size)) w.heap.size St.zero.cells 0 (Kept.refl _ U) (.inl rfl)) (by show ¬ w.heap.size + 1 = w.heap.size; omega)).set1 0 (.iface 48 (.pointer (some ⟨W.heap.size, 0, none⟩))) (by simp)
      have hKE := (kE.block X.heap.size (by have := (Array.getElem?_eq_some_iff.1 hK).1; have := bU.size; omega) (by omega)).trans ((bU.block X.heap.size (by have := (Array.getElem?_eq_some_iff.1 hK).1; omega)).trans hK)
      have hqE := (kE.cell (p := ⟨W.heap.size, 0, none⟩) (World.block_lt_of_cell? _ _ qU) (by show ¬ (W.heap.size = w.heap.size ∨ W.heap.size = w.heap.size + 1); omega)).trans qU
      have hbE : Below w.heap.size w _ := (hbw.trans (bU.mono (by omega))).trans (kE.below (B := w.heap.size) (fun k h => by omega) (by have := bU.size; omega))
      simp only [St.zero, Cl.zero] at u0 u1 u2 u3 u4 u5 u6
      clear kE bU
      gi_wp2_with fail
      refine leave9 _ w.heap.size (w.heap.size + 1) X.heap.size St.zero _ _ _ rfl rfl hKE e1 e2 (by omega) (by omega) ?_
      refine ⟨?_, ?_⟩
      · rw [← hrun]
        exact ⟨_, rfl, ((Kept.putObj (S := (· = X.heap.size)) (Kept.refl _ _) (.inl rfl) _).cell (p := ⟨W.heap.size, 0, none⟩) (World.block_lt_of_cell? _ _ hqE) (by show ¬ W.heap.size = X.heap.size; have := (Array.getElem?_eq_some_iff.1 hK).1; omega)).trans hqE⟩
      · exact hbE.trans ((Kept.putObj (S := (· = X.heap.size)) (Kept.refl _ _) (.inl rfl) _).below (fun k h => by omega) hbE.size)
    | true =>
      rw [hhb] at hc hrun
      simp only [if_true] at hrun
      have ho := hrun.symm
      have b1 := m.r1
      have b2 := m.r2
      have bv := m.v
      have mk := m.kept
      clear m hrun hhb hbw zW
      have hbw : Below w.heap.size w W := (kX.below (fun _ h => h.elim) (Nat.le_refl _)).trans (mk.below (fun _ h => h) (by omega))
      have zW := mk.size
      have y0 := bv.cell 0 _ rfl
      have y1 := bv.cell 1 _ rfl
      have y2 := bv.cell 2 _ rfl
      have y3 := bv.cell 3 _ rfl
      have y4 := bv.cell 4 _ rfl
      have y5 := bv.cell 5 _ rfl
      have y6 := bv.cell 6 _ rfl
      have u0 := b1.cell 0 _ rfl
      have u1 := b1.cell 1 _ rfl
      have u2 := b1.cell 2 _ rfl
      have u3 := b1.cell 3 _ rfl
      have u4 := b1.cell 4 _ rfl
      have u5 := b1.cell 5 _ rfl
      have u6 := b1.cell 6 _ rfl
      have uf := b1.frz
      have v0 := b2.cell 0 _ rfl
      have vf := b2.frz
      have c1 := b1.set s.cells rfl
      have kE : Kept (fun k => k = w.heap.size ∨ k = w.heap.size + 1) W ((W.setCells w.heap.size 0 s.cells).setCell ⟨w.heap.size + 1, 0, none⟩ .nilIface) :=
        (Kept.setCells w.heap.size _ 0 (Kept.refl _ W) (.inl (.inl rfl))).setCell (a := ⟨w.heap.size + 1, 0, none⟩) (.inl (.inr rfl)) _
      have e1 := c1.kept (S := (· = w.heap.size + 1)) (Kept.setCell (S := (· = w.heap.size + 1)) (a := ⟨w.heap.size + 1, 0, none⟩) (Kept.refl _ _) (.inl rfl) .nilIface) (by show ¬ w.heap.size = w.heap.size + 1; omega)
      have e2 := (b2.kept (S := (· = w.heap.size)) (Kept.setCells (S := (· = w.heap.size)) w.heap.size s.cells 0 (Kept.refl _ W) (.inl rfl)) (by show ¬ w.heap.size + 1 = w.heap.size; omega)).set1 0 .nilIface (by simp)
      have hKE := (kE.block X.heap.size (Array.getElem?_eq_some_iff.1 hK).1 (by omega)).trans hK
      have hbE : Below w.heap.size w _ := hbw.trans (kE.below (B := w.heap.size) (fun k h => by omega) (by omega))
      clear kE
      gi_wp2_with fail
      refine leave9 _ w.heap.size (w.heap.size + 1) X.heap.size s _ _ _ rfl rfl hKE e1 e2 (by omega) (by omega) ?_
      exact ⟨by rw [ho], hbE.trans ((Kept.putObj (S := (· = X.heap.size)) (Kept.refl _ _) (.inl rfl) _).below (fun k h => by omega) hbE.size)⟩
  case hstop =>
    clear hout
    rintro c W ⟨mk, h⟩ hK
    rcases h with ⟨rfl, o, q, ho, b1, b2, hq, hn⟩ | ⟨rfl, s, ho, hh, b1, b2, bv, b4⟩
    · have hbw : Below w.heap.size w W := (kX.below (fun _ h => h.elim) (Nat.le_refl _)).trans (mk.below (fun _ h => h) (by omega))
      gi_wp2_with fail
      refine leave9 _ w.heap.size (w.heap.size + 1) X.heap.size St.zero _ _ _ rfl rfl hK b1 b2 (by omega) (by omega) ?_
      refine ⟨?_, hbw.trans ((Kept.putObj (S := (· = X.heap.size)) (Kept.refl _ _) (.inl rfl) _).below (fun k h => by omega) hbw.size)⟩
      rw [ho]
      exact ⟨_, rfl, ((Kept.putObj (S := (· = X.heap.size)) (Kept.refl _ _) (.inl rfl) _).cell (p := ⟨q, 0, none⟩) (World.block_lt_of_cell? _ _ hq) (by show ¬ q = X.heap.size; omega)).trans hq⟩
    · have hc := b4.cell 0 _ rfl
      have hbw : Below w.heap.size w W := (kX.below (fun _ h => h.elim) (Nat.le_refl _)).trans (mk.below (fun _ h => h) (by omega))
      have zW := mk.size
      have y0 := bv.cell 0 _ rfl
      have y1 := bv.cell 1 _ rfl
      have y2 := bv.cell 2 _ rfl
      have y3 := bv.cell 3 _ rfl
      have y4 := bv.cell 4 _ rfl
      have y5 := bv.cell 5 _ rfl
      have y6 := bv.cell 6 _ rfl
      have u0 := b1.cell 0 _ rfl
      have u1 := b1.cell 1 _ rfl
      have u2 := b1.cell 2 _ rfl
      have u3 := b1.cell 3 _ rfl
      have u4 := b1.cell 4 _ rfl
      have u5 := b1.cell 5 _ rfl
      have u6 := b1.cell 6 _ rfl
      have uf := b1.frz
      have v0 := b2.cell 0 _ rfl
      have vf := b2.frz
      have c1 := b1.set s.cells rfl
      have kE : Kept (fun k => k = w.heap.size ∨ k = w.heap.size + 1) W ((W.setCells w.heap.size 0 s.cells).setCell ⟨w.heap.size + 1, 0, none⟩ .nilIface) :=
        (Kept.setCells w.heap.size _ 0 (Kept.refl _ W) (.inl (.inl rfl))).setCell (a := ⟨w.heap.size + 1, 0, none⟩) (.inl (.inr rfl)) _
      have e1 := c1.kept (S := (· = w.heap.size + 1)) (Kept.setCell (S := (· = w.heap.size + 1)) (a := ⟨w.heap.size + 1, 0, none⟩) (Kept.refl _ _) (.inl rfl) .nilIface) (by show ¬ w.heap.size = w.heap.size + 1; omega)
      have e2 := (b2.kept (S := (· = w.heap.size)) (Kept.setCells (S := (· = w.heap.size)) w.heap.size s.cells 0 (Kept.refl _ W) (.inl rfl)) (by show ¬ w.heap.size + 1 = w.heap.size; omega)).set1 0 .nilIface (by simp)
      have hKE := (kE.block X.heap.size (Array.getElem?_eq_some_iff.1 hK).1 (by omega)).trans hK
      have hbE : Below w.heap.size w _ := hbw.trans (kE.below (B := w.heap.size) (fun k h => by omega) (by omega))
      clear kE
      gi_wp2_with fail
      refine leave9 _ w.heap.size (w.heap.size + 1) X.heap.size s _ _ _ rfl rfl hKE e1 e2 (by omega) (by omega) ?_
      exact ⟨by rw [ho], hbE.trans ((Kept.putObj (S := (· = X.heap.size)) (Kept.refl _ _) (.inl rfl) _).below (fun k h => by omega) hbE.size)⟩
end Go.Proofs.YbulkcupaFmt
