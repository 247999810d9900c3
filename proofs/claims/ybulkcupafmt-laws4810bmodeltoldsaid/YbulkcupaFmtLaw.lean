/- By an AI agent. No person has read it.
   LawS4810BModel (function 4): it answers true. -/
import Derived.Test.YbulkcupaFmtModel
import Derived.Test.YbulkcupaFmtParse
import Derived.Test.YbulkcupaFmtBuild
import Derived.Test.YbulkcupaFmtSlices
import Derived.Test.YbulkcupaFmtAs
import Derived.Laws.StructEq
namespace Go.Proofs.YbulkcupaFmt
open Go.RowKit Go.Extern.Stop Go.Stop Go.Extern

theorem eq34 (d : Nat) (a b : ByteArray) (w : World) : (Op.equalIn (d + 2) 34 (.agg #[.string a, .string b]) (.agg #[.string a, .string b])).run Ybaf.prog w = .ok true w := by
  have hS : Ybaf.prog.underlying 34 = some (.struct (Ybaf.prog.fieldsOf 34)) := by kernel_rfl
  have hp : Ybaf.prog.stoodInHeld 34 = false := by kernel_rfl
  have u9 := Ybaf.underlying9
  rw [run_equalIn_agg w (d + 1) 34 _ _ hS hp]
  simp only [Program.fieldsOf, Ybaf.underlying34]
  go_simp

theorem eq36 (d : Nat) (a b : ByteArray) (x y : Int) (w : World) : (Op.equalIn (d + 3) 36 (.agg #[.string a, .string b, .int .u16 x, .int .u8 y]) (.agg #[.string a, .string b, .int .u16 x, .int .u8 y])).run Ybaf.prog w = .ok true w := by
  have hS : Ybaf.prog.underlying 36 = some (.struct (Ybaf.prog.fieldsOf 36)) := by kernel_rfl
  have hp : Ybaf.prog.stoodInHeld 36 = false := by kernel_rfl
  have u29 := Ybaf.underlying29
  have u5 := Ybaf.underlying5
  have e := eq34 d a b
  rw [run_equalIn_agg w (d + 2) 36 _ _ hS hp]
  simp only [Program.fieldsOf, Ybaf.underlying36]
  go_simp

theorem eq38 (d : Nat) (a b : ByteArray) (x y z : Int) (w : World) : (Op.equalIn (d + 4) 38 (.agg #[.string a, .string b, .int .u16 x, .int .u8 y, .int .u16 z]) (.agg #[.string a, .string b, .int .u16 x, .int .u8 y, .int .u16 z])).run Ybaf.prog w = .ok true w := by
  have hS : Ybaf.prog.underlying 38 = some (.struct (Ybaf.prog.fieldsOf 38)) := by kernel_rfl
  have hp : Ybaf.prog.stoodInHeld 38 = false := by kernel_rfl
  have u29 := Ybaf.underlying29
  have e := eq36 d a b x y
  rw [run_equalIn_agg w (d + 3) 38 _ _ hS hp]
  simp only [Program.fieldsOf, Ybaf.underlying38]
  go_simp

/-- A BVC is the same as itself. -/
theorem eq40 (s : St) (w : World) : (Op.equalIn 10000 40 (.agg #[.int .u16 s.bv, .string s.cl.m1, .string s.cl.m2, .int .u16 s.cl.lac, .int .u8 s.cl.rac, .int .u16 s.cl.ci, .bool s.hc]) (.agg #[.int .u16 s.bv, .string s.cl.m1, .string s.cl.m2, .int .u16 s.cl.lac, .int .u8 s.cl.rac, .int .u16 s.cl.ci, .bool s.hc])).run Ybaf.prog w = .ok true w := by
  have hS : Ybaf.prog.underlying 40 = some (.struct (Ybaf.prog.fieldsOf 40)) := by kernel_rfl
  have hp : Ybaf.prog.stoodInHeld 40 = false := by kernel_rfl
  have u29 := Ybaf.underlying29
  have u4 := Ybaf.underlying4
  have e := eq38 9995 s.cl.m1 s.cl.m2 s.cl.lac s.cl.rac s.cl.ci
  rw [show (10000 : Nat) = 9999 + 1 from rfl, run_equalIn_agg w 9999 40 _ _ hS hp]
  simp only [Program.fieldsOf, Ybaf.underlying40]
  go_simp

def cut4 (T : Code) : Code → Code
  | .seq a (.seq b (.seq c (.seq d _))) => .seq a (.seq b (.seq c (.seq d T)))
  | _ => .skip
def behind4 : Code → Code
  | .seq _ (.seq _ (.seq _ (.seq _ t))) => t
  | _ => .skip
noncomputable def body4 : Code := Ybaf.f4.body.getD .skip
noncomputable def t6 : Code := behind4 body4

/-- What the law leaves. -/
def Lawful (w : World) (e : Ending) (w' : World) : Prop := e = .returned (.bool true) ∧ Below w.heap.size w w'

theorem eq40z (w : World) : (Op.equalIn 10000 40 (.agg #[.int .u16 0, .string ⟨#[]⟩, .string ⟨#[]⟩, .int .u16 0, .int .u8 0, .int .u16 0, .bool false]) (.agg #[.int .u16 0, .string ⟨#[]⟩, .string ⟨#[]⟩, .int .u16 0, .int .u8 0, .int .u16 0, .bool false])).run Ybaf.prog w = .ok true w := eq40 St.zero w

set_option maxRecDepth 100000 in
set_option maxHeartbeats 4000000 in
theorem tail4 (F : Interp) (g n c : Nat) (R : Nat → Nat) (w W : World) (c0 c1 c2 c3 c4 c5 c6 c7 c8 c10 c11 c12 c13 c14 c15 c16 c17 c18 c19 c20 c21 c22 c23 c24 c25 c26 c27 c28 c29 c30 c31 c32 c33 c34 c35 c36 c37 c38 c39 c40 c41 c42 c43 c44 c45 c46 c47 c48 c49 c50 c51 c52 c53 c54 c55 c56 c57 c58 c59 c60 c61 c62 c63 c64 c65 c66 c67 c68 c69 c70 c71 c72 c73 c74 c75 : Value) (hF : F.answers W.tape) (hT : Table W) (hE : W.cell? ⟨1, 0, none⟩ = some (.iface 96 (.agg #[.pointer (some ⟨3, 42, none⟩)]))) (hp : Pdu W g n R) (hnc : n ≤ c) (hb : Below w.heap.size w W) :
    Code.wp Ybaf.prog t6 (bodyPost Ybaf.prog Ybaf.f4 (Lawful w)) ⟨List.toArray (c0 :: c1 :: c2 :: c3 :: c4 :: c5 :: c6 :: c7 :: c8 :: .slice (some ⟨g, 0, none⟩) n c :: c10 :: c11 :: c12 :: c13 :: c14 :: c15 :: c16 :: c17 :: c18 :: c19 :: c20 :: c21 :: c22 :: c23 :: c24 :: c25 :: c26 :: c27 :: c28 :: c29 :: c30 :: c31 :: c32 :: c33 :: c34 :: c35 :: c36 :: c37 :: c38 :: c39 :: c40 :: c41 :: c42 :: c43 :: c44 :: c45 :: c46 :: c47 :: c48 :: c49 :: c50 :: c51 :: c52 :: c53 :: c54 :: c55 :: c56 :: c57 :: c58 :: c59 :: c60 :: c61 :: c62 :: c63 :: c64 :: c65 :: c66 :: c67 :: c68 :: c69 :: c70 :: c71 :: c72 :: c73 :: c74 :: c75 :: []), []⟩ W := by
  have hC := clone_any g n c R W hp
  have hm : Ybaf.prog.eqGuardType Ybaf.prog.depth 40 = false := by kernel_rfl
  conv => arg 2; whnf
  go_wp2_with fail
  refine hC.mono ?_
  rintro e U1 ⟨g2, cap2, rfl, hcap2, hg2, hp2, b1⟩
  clear hC
  have hp1 := hp.below b1
  have hT1 : Table U1 := ⟨by have := hT.1; have := b1.size; omega, fun i hi => (b1.cell (p := ⟨2, i, none⟩) hT.1).trans (hT.2 i hi)⟩
  have hP := parse_any F g n c R U1 (by rw [b1.tape]; exact hF) hT1 hp1 hnc
  go_wp2_with fail
  refine hP.mono ?_
  rintro e U2 ⟨he, b2⟩
  clear hP
  have hM := fun (V : World) (h : Pdu V g n R) => model_any g n c R V h hnc
  have b02 : Below W.heap.size W U2 := b1.trans (b2.mono b1.size)
  have hpU2 := hp1.below b2
  have hp2U2 := hp2.below b2
  cases hout : scan R n (n + 1) 1 St.zero with
  | done s =>
    rw [hout] at he hM
    simp only [St.cells] at he
    subst he
    obtain ⟨U3, hU3⟩ : ∃ U3, U3 = U2.alloc (.cells #[.int .u16 s.bv, .string s.cl.m1, .string s.cl.m2, .int .u16 s.cl.lac, .int .u8 s.cl.rac, .int .u16 s.cl.ci, .bool s.hc] 40) := ⟨_, rfl⟩
    have b3 : Below U2.heap.size U2 U3 := by rw [hU3]; go_grown
    have box3 : Box U3 U2.heap.size s.cells := by rw [hU3]; exact Box.new U2 _ _
    have hpU3 := hpU2.below b3
    have hp2U3 := hp2U2.below b3
    have hQ := equal_same g2 g n cap2 c R U3 hp2U3 hpU3
    go_wp2_with fail
    rw [← hU3]
    clear hU3
    refine hQ.mono ?_
    rintro e U4 ⟨rfl, q, hU4⟩
    clear hQ
    have b4 : Below U3.heap.size U3 U4 := by rw [hU4]; exact below_drewN (Below.refl _ _) q
    clear hU4
    have box4 := box3.below b4
    have hM4 := hM U4 (hpU3.below b4)
    go_wp2_with fail
    refine hM4.mono ?_
    clear hM4 hM
    rintro e U5 ⟨rfl, b5⟩
    have box5 := (box4.below b5).alloc (.cells #[.int .u16 s.bv, .string s.cl.m1, .string s.cl.m2, .int .u16 s.cl.lac, .int .u8 s.cl.rac, .int .u16 s.cl.ci, .bool s.hc] 40)
    have box6 := Box.new U5 #[.int .u16 s.bv, .string s.cl.m1, .string s.cl.m2, .int .u16 s.cl.lac, .int .u8 s.cl.rac, .int .u16 s.cl.ci, .bool s.hc] 40
    have hfin : Below w.heap.size w (U5.alloc (.cells #[.int .u16 s.bv, .string s.cl.m1, .string s.cl.m2, .int .u16 s.cl.lac, .int .u8 s.cl.rac, .int .u16 s.cl.ci, .bool s.hc] 40)) := by
      have z0 := hb.size
      have z2 := b02.size
      have z3 := b3.size
      have z4 := b4.size
      have z5 := b5.size
      refine ((((hb.trans (b02.mono (by omega))).trans (b3.mono (by omega))).trans (b4.mono (by omega))).trans (b5.mono (by omega))).trans ?_
      exact Below.mono (show Below U5.heap.size U5 (U5.alloc (.cells #[.int .u16 s.bv, .string s.cl.m1, .string s.cl.m2, .int .u16 s.cl.lac, .int .u8 s.cl.rac, .int .u16 s.cl.ci, .bool s.hc] 40)) by go_grown) (by omega)
    have y0 := box5.cell 0 _ rfl
    have y1 := box5.cell 1 _ rfl
    have y2 := box5.cell 2 _ rfl
    have y3 := box5.cell 3 _ rfl
    have y4 := box5.cell 4 _ rfl
    have y5 := box5.cell 5 _ rfl
    have y6 := box5.cell 6 _ rfl
    have z0 := box6.cell 0 _ rfl
    have z1 := box6.cell 1 _ rfl
    have z2 := box6.cell 2 _ rfl
    have z3 := box6.cell 3 _ rfl
    have z4 := box6.cell 4 _ rfl
    have z5 := box6.cell 5 _ rfl
    have z6 := box6.cell 6 _ rfl
    have hq := eq40 s
    simp only [St.cells]
    clear box3 box4 box5 box6 b1 b2 b3 b4 b5 b02
    go_wp2_with fail
    go_returns
    all_goals exact ⟨rfl, hfin⟩
  | fail o =>
    rw [hout] at he hM
    simp only [St.cells, St.zero, Cl.zero] at he
    obtain ⟨q, rfl, hqc⟩ := he
    have hqlt := World.block_lt_of_cell? _ _ hqc
    obtain ⟨U3, hU3⟩ : ∃ U3, U3 = U2.alloc (.cells #[.int .u16 0, .string ⟨#[]⟩, .string ⟨#[]⟩, .int .u16 0, .int .u8 0, .int .u16 0, .bool false] 40) := ⟨_, rfl⟩
    have b3 : Below U2.heap.size U2 U3 := by rw [hU3]; go_grown
    have box3 : Box U3 U2.heap.size St.zero.cells := by rw [hU3]; exact Box.new U2 _ _
    have hpU3 := hpU2.below b3
    have hp2U3 := hp2U2.below b3
    have hQ := equal_same g2 g n cap2 c R U3 hp2U3 hpU3
    go_wp2_with fail
    rw [← hU3]
    clear hU3
    refine hQ.mono ?_
    rintro e U4 ⟨rfl, nq, hU4⟩
    clear hQ
    have b4 : Below U3.heap.size U3 U4 := by rw [hU4]; exact below_drewN (Below.refl _ _) nq
    clear hU4
    have box4 := box3.below b4
    have hM4 := hM U4 (hpU3.below b4)
    go_wp2_with fail
    refine hM4.mono ?_
    clear hM4 hM
    rintro e U5 ⟨rfl, b5⟩
    obtain ⟨U6, hU6⟩ : ∃ U6, U6 = (U5.alloc (.cells #[.int .u16 0, .string ⟨#[]⟩, .string ⟨#[]⟩, .int .u16 0, .int .u8 0, .int .u16 0, .bool false] 40)).alloc (.cells #[.pointer none] 48) := ⟨_, rfl⟩
    have b6 : Below U5.heap.size U5 U6 := by rw [hU6]; go_grown
    have z6 : U6.heap.size = U5.heap.size + 2 := by rw [hU6]; simp
    have boxE : Box U6 (U5.heap.size + 1) [.pointer none] := by
      rw [hU6]
      have := Box.new (U5.alloc (.cells #[.int .u16 0, .string ⟨#[]⟩, .string ⟨#[]⟩, .int .u16 0, .int .u8 0, .int .u16 0, .bool false] 40)) #[.pointer none] 48
      rw [World.size_alloc] at this
      exact this
    have z0 := hb.size
    have z2 := b02.size
    have z3 := b3.size
    have z4 := b4.size
    have z5 := b5.size
    have b26 : Below U2.heap.size U2 U6 := ((b3.trans (b4.mono (by omega))).trans (b5.mono (by omega))).trans (b6.mono (by omega))
    have bW6 : Below W.heap.size W U6 := b02.trans (b26.mono (by omega))
    have bw6 : Below w.heap.size w U6 := hb.trans (bW6.mono (by omega))
    have box6 := (box4.below b5).below b6
    have hE6 := (bW6.cell (p := ⟨1, 0, none⟩) (World.block_lt_of_cell? _ _ hE)).trans hE
    have hq6 := (b26.cell (p := ⟨q, 0, none⟩) hqlt).trans hqc
    have hA := as_hit ⟨q, 0, none⟩ ⟨U5.heap.size + 1, 0, none⟩ (.pointer none) U6 hE6 (boxE.cell 0 _ rfl) (boxE.frz 0)
    simp only [St.cells, St.zero, Cl.zero]
    clear hqc
    go_wp2_with fail
    rw [← hU6]
    clear hU6
    refine hA.mono ?_
    clear hA
    rintro e U7 ⟨rfl, hU7⟩
    have k7 : Kept (· = U5.heap.size + 1) U6 U7 := by
      rw [hU7]
      exact Kept.setCell (S := (· = U5.heap.size + 1)) (a := ⟨U5.heap.size + 1, 0, none⟩) ((((Kept.refl _ U6).alloc _).alloc _).alloc _ |>.alloc _) (.inl rfl) _
    have boxE7 : Box U7 (U5.heap.size + 1) [.pointer (some ⟨q, 0, none⟩)] := by
      rw [hU7]
      exact ((((boxE.alloc _).alloc _).alloc _).alloc _).set1 0 (.pointer (some ⟨q, 0, none⟩)) (by simp)
    clear hU7
    have box7 := box6.kept k7 (by omega)
    have hq7 := (k7.cell (p := ⟨q, 0, none⟩) (show q < U6.heap.size by omega) (show ¬ q = U5.heap.size + 1 by have : q < U2.heap.size := hqlt; omega)).trans hq6
    have hfin : Below w.heap.size w U7 := bw6.trans (k7.below (fun k h => by omega) (by omega))
    have y0 := box7.cell 0 _ rfl
    have y1 := box7.cell 1 _ rfl
    have y2 := box7.cell 2 _ rfl
    have y3 := box7.cell 3 _ rfl
    have y4 := box7.cell 4 _ rfl
    have y5 := box7.cell 5 _ rfl
    have y6 := box7.cell 6 _ rfl
    simp only [St.zero, Cl.zero] at y0 y1 y2 y3 y4 y5 y6
    have x0 := boxE7.cell 0 _ rfl
    have hq := eq40z
    clear box3 box4 box6 box7 boxE boxE7 b1 b2 b3 b4 b5 b6 b02 b26 bW6 bw6 k7 z6
    go_wp2_with fail
    go_returns
    all_goals exact ⟨rfl, hfin⟩

set_option maxRecDepth 100000 in
set_option maxHeartbeats 4000000 in
theorem head4_off (t L C cut : Nat) (a : Option Addr) (w : World) (T : Code) (Q : Exit → Act → World → Prop) (c4 c5 c6 c7 c8 c9 c10 c11 c12 c13 c14 c15 c16 c17 c18 c19 c20 c21 c22 c23 c24 c25 c26 c27 c28 c29 c30 c31 c32 c33 c34 c35 c36 c37 c38 c39 c40 c41 c42 c43 c44 c45 c46 c47 c48 c49 c50 c51 c52 c53 c54 c55 c56 c57 c58 c59 c60 c61 c62 c63 c64 c65 c66 c67 c68 c69 c70 c71 c72 c73 c74 c75 : Value) (ht : t < 256) (hL : L ≤ 300) (hI : Items w a L)
    (hT : ∀ (g n c : Nat) (R : Nat → Nat) (W : World) (u4 u5 u6 u7 u8 u10 u11 u12 u13 u14 u15 u16 u17 u18 u19 u20 u21 u22 u23 u24 u25 u26 u27 u28 u29 u30 u31 u32 u33 u34 u35 u36 u37 u38 u39 u40 u41 u42 u43 u44 u45 u46 u47 u48 u49 u50 u51 u52 u53 u54 u55 u56 u57 u58 u59 u60 u61 u62 u63 u64 u65 u66 u67 u68 u69 u70 u71 u72 u73 u74 u75 : Value), Pdu W g n R → n ≤ c → Below w.heap.size w W → Code.wp Ybaf.prog T Q ⟨List.toArray (.int .u8 (t : Int) :: .slice a L C :: .bool false :: .int .u16 (cut : Int) :: u4 :: u5 :: u6 :: u7 :: u8 :: .slice (some ⟨g, 0, none⟩) n c :: u10 :: u11 :: u12 :: u13 :: u14 :: u15 :: u16 :: u17 :: u18 :: u19 :: u20 :: u21 :: u22 :: u23 :: u24 :: u25 :: u26 :: u27 :: u28 :: u29 :: u30 :: u31 :: u32 :: u33 :: u34 :: u35 :: u36 :: u37 :: u38 :: u39 :: u40 :: u41 :: u42 :: u43 :: u44 :: u45 :: u46 :: u47 :: u48 :: u49 :: u50 :: u51 :: u52 :: u53 :: u54 :: u55 :: u56 :: u57 :: u58 :: u59 :: u60 :: u61 :: u62 :: u63 :: u64 :: u65 :: u66 :: u67 :: u68 :: u69 :: u70 :: u71 :: u72 :: u73 :: u74 :: u75 :: []), []⟩ W) :
    Code.wp Ybaf.prog (cut4 T body4) Q ⟨List.toArray (.int .u8 (t : Int) :: .slice a L C :: .bool false :: .int .u16 (cut : Int) :: c4 :: c5 :: c6 :: c7 :: c8 :: c9 :: c10 :: c11 :: c12 :: c13 :: c14 :: c15 :: c16 :: c17 :: c18 :: c19 :: c20 :: c21 :: c22 :: c23 :: c24 :: c25 :: c26 :: c27 :: c28 :: c29 :: c30 :: c31 :: c32 :: c33 :: c34 :: c35 :: c36 :: c37 :: c38 :: c39 :: c40 :: c41 :: c42 :: c43 :: c44 :: c45 :: c46 :: c47 :: c48 :: c49 :: c50 :: c51 :: c52 :: c53 :: c54 :: c55 :: c56 :: c57 :: c58 :: c59 :: c60 :: c61 :: c62 :: c63 :: c64 :: c65 :: c66 :: c67 :: c68 :: c69 :: c70 :: c71 :: c72 :: c73 :: c74 :: c75 :: []), []⟩ w := by
  have hB := build_any w t a L C ht hL hI
  conv => arg 2; whnf
  go_wp2_with fail
  refine hB.mono ?_
  rintro e W ⟨g, n, c, rfl, o, hn, hb⟩
  clear hB
  obtain ⟨R, row, hR⟩ := o.row
  have hcap := o.cap
  have hlt := o.lt
  have hp : ∀ m, m ≤ n → Pdu W g m (fun j => (R j).toNat) := fun m hm => ⟨hlt, fun j hj => by
    have := row.cell j (by omega)
    rw [Nat.zero_add] at this
    rw [this, Int.toNat_of_nonneg (hR j (by omega)).1], fun j hj => by have := hR j (by omega); omega, by omega⟩
  clear o row hR
  go_wp2_with fail
  exact hT g n c _ W _ _ _ _ _ _ _ _ _ _ _ _ _ _ _ _ _ _ _ _ _ _ _ _ _ _ _ _ _ _ _ _ _ _ _ _ _ _ _ _ _ _ _ _ _ _ _ _ _ _ _ _ _ _ _ _ _ _ _ _ _ _ _ _ _ _ _ _ _ _ _ (hp n (Nat.le_refl _)) hcap hb

set_option maxRecDepth 100000 in
set_option maxHeartbeats 4000000 in
theorem head4_on (t L C cut : Nat) (a : Option Addr) (w : World) (T : Code) (Q : Exit → Act → World → Prop) (c4 c5 c6 c7 c8 c9 c10 c11 c12 c13 c14 c15 c16 c17 c18 c19 c20 c21 c22 c23 c24 c25 c26 c27 c28 c29 c30 c31 c32 c33 c34 c35 c36 c37 c38 c39 c40 c41 c42 c43 c44 c45 c46 c47 c48 c49 c50 c51 c52 c53 c54 c55 c56 c57 c58 c59 c60 c61 c62 c63 c64 c65 c66 c67 c68 c69 c70 c71 c72 c73 c74 c75 : Value) (ht : t < 256) (hcut : cut < 65536) (hL : L ≤ 300) (hI : Items w a L)
    (hT : ∀ (g n c : Nat) (R : Nat → Nat) (W : World) (u4 u5 u6 u7 u8 u10 u11 u12 u13 u14 u15 u16 u17 u18 u19 u20 u21 u22 u23 u24 u25 u26 u27 u28 u29 u30 u31 u32 u33 u34 u35 u36 u37 u38 u39 u40 u41 u42 u43 u44 u45 u46 u47 u48 u49 u50 u51 u52 u53 u54 u55 u56 u57 u58 u59 u60 u61 u62 u63 u64 u65 u66 u67 u68 u69 u70 u71 u72 u73 u74 u75 : Value), Pdu W g n R → n ≤ c → Below w.heap.size w W → Code.wp Ybaf.prog T Q ⟨List.toArray (.int .u8 (t : Int) :: .slice a L C :: .bool true :: .int .u16 (cut : Int) :: u4 :: u5 :: u6 :: u7 :: u8 :: .slice (some ⟨g, 0, none⟩) n c :: u10 :: u11 :: u12 :: u13 :: u14 :: u15 :: u16 :: u17 :: u18 :: u19 :: u20 :: u21 :: u22 :: u23 :: u24 :: u25 :: u26 :: u27 :: u28 :: u29 :: u30 :: u31 :: u32 :: u33 :: u34 :: u35 :: u36 :: u37 :: u38 :: u39 :: u40 :: u41 :: u42 :: u43 :: u44 :: u45 :: u46 :: u47 :: u48 :: u49 :: u50 :: u51 :: u52 :: u53 :: u54 :: u55 :: u56 :: u57 :: u58 :: u59 :: u60 :: u61 :: u62 :: u63 :: u64 :: u65 :: u66 :: u67 :: u68 :: u69 :: u70 :: u71 :: u72 :: u73 :: u74 :: u75 :: []), []⟩ W) :
    Code.wp Ybaf.prog (cut4 T body4) Q ⟨List.toArray (.int .u8 (t : Int) :: .slice a L C :: .bool true :: .int .u16 (cut : Int) :: c4 :: c5 :: c6 :: c7 :: c8 :: c9 :: c10 :: c11 :: c12 :: c13 :: c14 :: c15 :: c16 :: c17 :: c18 :: c19 :: c20 :: c21 :: c22 :: c23 :: c24 :: c25 :: c26 :: c27 :: c28 :: c29 :: c30 :: c31 :: c32 :: c33 :: c34 :: c35 :: c36 :: c37 :: c38 :: c39 :: c40 :: c41 :: c42 :: c43 :: c44 :: c45 :: c46 :: c47 :: c48 :: c49 :: c50 :: c51 :: c52 :: c53 :: c54 :: c55 :: c56 :: c57 :: c58 :: c59 :: c60 :: c61 :: c62 :: c63 :: c64 :: c65 :: c66 :: c67 :: c68 :: c69 :: c70 :: c71 :: c72 :: c73 :: c74 :: c75 :: []), []⟩ w := by
  have hB := build_any w t a L C ht hL hI
  conv => arg 2; whnf
  go_wp2_with fail
  refine hB.mono ?_
  rintro e W ⟨g, n, c, rfl, o, hn, hb⟩
  clear hB
  obtain ⟨R, row, hR⟩ := o.row
  have hcap := o.cap
  have hlt := o.lt
  have hp : ∀ m, m ≤ n → Pdu W g m (fun j => (R j).toNat) := fun m hm => ⟨hlt, fun j hj => by
    have := row.cell j (by omega)
    rw [Nat.zero_add] at this
    rw [this, Int.toNat_of_nonneg (hR j (by omega)).1], fun j hj => by have := hR j (by omega); omega, by omega⟩
  clear o row hR
  have hmod : cut % (n + 1) ≤ n := by have := Nat.mod_lt cut (show 0 < n + 1 by omega); omega
  have e : (cut : Int) % ((n : Int) + 1) = ((cut % (n + 1) : Nat) : Int) := by simp
  have hm1 : (cut : Int) % ((n : Int) + 1) ≤ (c : Int) := by rw [e]; omega
  have hm0 : 0 ≤ (cut : Int) % ((n : Int) + 1) := by rw [e]; omega
  clear e
  go_wp2_with fail
  exact hT g (cut % (n + 1)) c _ W _ _ _ _ _ _ _ _ _ _ _ _ _ _ _ _ _ _ _ _ _ _ _ _ _ _ _ _ _ _ _ _ _ _ _ _ _ _ _ _ _ _ _ _ _ _ _ _ _ _ _ _ _ _ _ _ _ _ _ _ _ _ _ _ _ _ _ _ _ _ _ (hp _ hmod) (by omega) hb

set_option maxRecDepth 100000 in
set_option maxHeartbeats 4000000 in
theorem law_some (F : Interp) (t L C cut : Nat) (a : Option Addr) (cutOn : Bool) (w : World) (hF : F.answers w.tape) (hT : Table w) (hE : w.cell? ⟨1, 0, none⟩ = some (.iface 96 (.agg #[.pointer (some ⟨3, 42, none⟩)]))) (ht : t < 256) (hcut : cut < 65536) (hL : L ≤ 300) (hI : Items w a L) :
    Calls Ybaf.prog 4 #[.int .u8 (t : Int), .slice a L C, .bool cutOn, .int .u16 (cut : Int)] w (Lawful w) := by
  have tail : ∀ (g n c : Nat) (R : Nat → Nat) (W : World) (u0 u1 u2 u3 u4 u5 u6 u7 u8 u10 u11 u12 u13 u14 u15 u16 u17 u18 u19 u20 u21 u22 u23 u24 u25 u26 u27 u28 u29 u30 u31 u32 u33 u34 u35 u36 u37 u38 u39 u40 u41 u42 u43 u44 u45 u46 u47 u48 u49 u50 u51 u52 u53 u54 u55 u56 u57 u58 u59 u60 u61 u62 u63 u64 u65 u66 u67 u68 u69 u70 u71 u72 u73 u74 u75 : Value), Pdu W g n R → n ≤ c → Below w.heap.size w W → Code.wp Ybaf.prog t6 (bodyPost Ybaf.prog Ybaf.f4 (Lawful w)) ⟨List.toArray (u0 :: u1 :: u2 :: u3 :: u4 :: u5 :: u6 :: u7 :: u8 :: .slice (some ⟨g, 0, none⟩) n c :: u10 :: u11 :: u12 :: u13 :: u14 :: u15 :: u16 :: u17 :: u18 :: u19 :: u20 :: u21 :: u22 :: u23 :: u24 :: u25 :: u26 :: u27 :: u28 :: u29 :: u30 :: u31 :: u32 :: u33 :: u34 :: u35 :: u36 :: u37 :: u38 :: u39 :: u40 :: u41 :: u42 :: u43 :: u44 :: u45 :: u46 :: u47 :: u48 :: u49 :: u50 :: u51 :: u52 :: u53 :: u54 :: u55 :: u56 :: u57 :: u58 :: u59 :: u60 :: u61 :: u62 :: u63 :: u64 :: u65 :: u66 :: u67 :: u68 :: u69 :: u70 :: u71 :: u72 :: u73 :: u74 :: u75 :: []), []⟩ W := by
    intro g n c R W u0 u1 u2 u3 u4 u5 u6 u7 u8 u10 u11 u12 u13 u14 u15 u16 u17 u18 u19 u20 u21 u22 u23 u24 u25 u26 u27 u28 u29 u30 u31 u32 u33 u34 u35 u36 u37 u38 u39 u40 u41 u42 u43 u44 u45 u46 u47 u48 u49 u50 u51 u52 u53 u54 u55 u56 u57 u58 u59 u60 u61 u62 u63 u64 u65 u66 u67 u68 u69 u70 u71 u72 u73 u74 u75 hp hnc hb
    exact tail4 F g n c R w W u0 u1 u2 u3 u4 u5 u6 u7 u8 u10 u11 u12 u13 u14 u15 u16 u17 u18 u19 u20 u21 u22 u23 u24 u25 u26 u27 u28 u29 u30 u31 u32 u33 u34 u35 u36 u37 u38 u39 u40 u41 u42 u43 u44 u45 u46 u47 u48 u49 u50 u51 u52 u53 u54 u55 u56 u57 u58 u59 u60 u61 u62 u63 u64 u65 u66 u67 u68 u69 u70 u71 u72 u73 u74 u75 (by rw [hb.tape]; exact hF) ⟨by have := hT.1; have := hb.size; omega, fun i hi => (hb.cell (p := ⟨2, i, none⟩) hT.1).trans (hT.2 i hi)⟩ ((hb.cell (p := ⟨1, 0, none⟩) (World.block_lt_of_cell? _ _ hE)).trans hE) hp hnc hb
  go_enter Ybaf.func4, Ybaf.ntmps4
  show Code.wp Ybaf.prog (cut4 t6 body4) _ _ _
  cases cutOn with
  | false => exact head4_off t L C cut a w t6 _ _ _ _ _ _ _ _ _ _ _ _ _ _ _ _ _ _ _ _ _ _ _ _ _ _ _ _ _ _ _ _ _ _ _ _ _ _ _ _ _ _ _ _ _ _ _ _ _ _ _ _ _ _ _ _ _ _ _ _ _ _ _ _ _ _ _ _ _ _ _ _ _ ht hL hI (fun g n c R W => tail g n c R W _ _ _ _)
  | true => exact head4_on t L C cut a w t6 _ _ _ _ _ _ _ _ _ _ _ _ _ _ _ _ _ _ _ _ _ _ _ _ _ _ _ _ _ _ _ _ _ _ _ _ _ _ _ _ _ _ _ _ _ _ _ _ _ _ _ _ _ _ _ _ _ _ _ _ _ _ _ _ _ _ _ _ _ _ _ _ _ ht hcut hL hI (fun g n c R W => tail g n c R W _ _ _ _)

/-- A script of more than 300 steps. -/
theorem law_long (L C : Nat) (t cut : Int) (a : Option Addr) (cutOn : Bool) (w : World) (hL : ¬ L ≤ 300) :
    Calls Ybaf.prog 4 #[.int .u8 t, .slice a L C, .bool cutOn, .int .u16 cut] w (Lawful w) := by
  go_enter Ybaf.func4, Ybaf.ntmps4
  go_wp2_with fail
  go_returns
  all_goals exact ⟨rfl, Below.refl _ _⟩
end Go.Proofs.YbulkcupaFmt
