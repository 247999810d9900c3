/- By an AI agent. No person has read it.
   zzs4810bbuild (function 7): its round, in parts. Nothing is said of the octets but that they are octets. -/
import Derived.Test.YbulkcupaFmtRai
import Derived.BigRegion
namespace Go.Proofs.YbulkcupaFmt
open Go.RowKit Go.Extern.Stop Go.Stop Go.Extern

/-- A slice of octets that is read: nothing; or a row in another block than g. -/
def SrcOf (W : World) (va : Option Addr) (vn g : Nat) : Prop :=
  vn = 0 ∨ ∃ h oh, ∃ Y : Nat → Int, va = some ⟨h, oh, none⟩ ∧ h ≠ g ∧ h < W.heap.size ∧ ∀ j, j < vn → W.cell? ⟨h, oh + j, none⟩ = some (.int .u8 (Y j)) ∧ 0 ≤ Y j ∧ Y j ≤ 255

def loop7Of : Code → Option Code
  | .loop c => some c
  | .seq a b => match loop7Of a with
    | some c => some c
    | none => loop7Of b
  | .block _ c => loop7Of c
  | .scope c => loop7Of c
  | .cond _ a b => match loop7Of a with
    | some c => some c
    | none => loop7Of b
  | _ => none
/-- C5; (block 1 in; step) -/
def inner7Of : Code → Code
  | .seq _ (.seq (.block _ c) _) => c
  | _ => .skip
def hd7 : Code → Code
  | .seq a _ => a
  | _ => .skip
def tl7 : Code → Code
  | .seq _ b => b
  | _ => .skip
noncomputable def body7 : Code := ((Ybaf.f7.body.bind loop7Of).getD .skip)
noncomputable def in7 : Code := inner7Of body7
/-- the 'switch' -/
noncomputable def s8 : Code := hd7 (tl7 (tl7 (tl7 in7)))
/-- the appends -/
noncomputable def t37 : Code := tl7 (tl7 (tl7 (tl7 in7)))
/-- i++ -/
noncomputable def r4 : Code := tl7 (tl7 body7)

theorem SrcOf.less {W : World} {va : Option Addr} {m n g : Nat} (h : SrcOf W va n g) (hm : m ≤ n) : SrcOf W va m g := by
  rcases h with rfl | ⟨h, oh, Y, e, h1, h2, h3⟩
  · exact .inl (by omega)
  · exact .inr ⟨h, oh, Y, e, h1, h2, fun j hj => h3 j (by omega)⟩
theorem SrcOf.kept {W W' : World} {va : Option Addr} {n g : Nat} {S : Nat → Prop} (h : SrcOf W va n g) (k : Kept S W W') (hS : ∀ x, S x → x = g) {g' : Nat} (hg : g' = g ∨ W.heap.size ≤ g') : SrcOf W' va n g' := by
  rcases h with rfl | ⟨h, oh, Y, e, h1, h2, h3⟩
  · exact .inl rfl
  · exact .inr ⟨h, oh, Y, e, by omega, Nat.lt_of_lt_of_le h2 k.size, fun j hj => ⟨(k.cell (p := ⟨h, oh + j, none⟩) h2 (fun hs => h1 (hS _ hs))).trans (h3 j hj).1, (h3 j hj).2⟩⟩

theorem bits_u8 (op : BinOp) (x y : Int) : 0 ≤ bits op .u8 x y ∧ bits op .u8 x y ≤ 255 := by
  unfold bits
  rw [IntKind.wrap_u8]
  omega


set_option maxRecDepth 100000 in
set_option maxHeartbeats 4000000 in
theorem s8_zero (t : Nat) (a : Option Addr) (L C g n c i q : Nat) (W : World) (Q : Exit → Act → World → Prop) (k num rn rc : Nat) (ra : Option Addr) (lg bd : Bool) (c2 c3 c4 c8 c9 c10 c11 c12 c13 c14 c15 c16 c17 c18 c19 c20 c21 c22 c23 c24 c25 c26 c27 c28 c29 c30 c31 c32 c33 c34 c35 c36 c37 c38 c39 c40 c41 c42 c43 c44 c45 c46 c47 c48 c49 c50 c51 c52 c53 c54 c55 c56 c57 c58 c59 c60 c61 c62 c63 c64 c65 c66 c67 c68 c69 c70 c71 c72 c73 c74 c75 c76 c77 c78 c79 c80 c81 c82 c83 c84 c85 c86 c87 c88 c89 c90 c91 c92 c93 c94 c95 c96 c97 c98 c99 c100 c101 c102 c103 c104 c105 c106 c107 c108 c109 c110 c111 c112 c113 c114 c115 c116 c117 c118 c119 c120 c121 c122 c123 c124 c125 c126 c127 c128 c129 c130 c131 c132 c133 c134 c135 : Value) (bq : Box W q [.int .u8 (k : Int), .int .u16 (num : Int), .slice ra rn rc, .bool lg, .bool bd]) (hk : k < 256) (hn : num < 65536) (hgW : g < W.heap.size) (h3 : k % 3 = 0)
    (hQ : ∀ (iei : Int) (va : Option Addr) (vn vc : Nat) (W' : World) (u10 u11 u12 u13 u14 u15 u16 u17 u18 u19 u20 u21 u22 u23 u24 u25 u26 u27 u28 u29 u30 u31 u32 u33 u34 u35 u36 u37 u38 u39 u40 u41 u42 u43 u44 u45 u46 u47 u48 u49 u50 u51 u52 u53 u54 u55 u56 u57 u58 u59 u60 u61 u62 u63 u64 u65 u66 u67 u68 u69 u70 u71 u72 u73 u74 u75 u76 u77 u78 u79 u80 u81 u82 u83 u84 u85 u86 u87 u88 u89 u90 u91 u92 u93 u94 u95 u96 u97 u98 u99 u100 u101 u102 u103 u104 u105 u106 u107 u108 u109 u110 u111 u112 u113 u114 u115 u116 u117 u118 u119 u120 u121 u122 u123 u124 u125 u126 u127 u128 u129 u130 u131 u132 u133 u134 u135 : Value), 0 ≤ iei ∧ iei ≤ 255 → vn ≤ 127 → Kept (fun _ => False) W W' → SrcOf W' va vn g → Q .normal ⟨List.toArray (.int .u8 (t : Int) :: .slice a L C :: c2 :: c3 :: c4 :: .slice (some ⟨g, 0, none⟩) n c :: .int .i64 (i : Int) :: .pointer (some ⟨q, 0, none⟩) :: .int .u8 iei :: .slice va vn vc :: u10 :: u11 :: u12 :: u13 :: u14 :: u15 :: u16 :: u17 :: u18 :: u19 :: u20 :: u21 :: u22 :: u23 :: u24 :: u25 :: u26 :: u27 :: u28 :: u29 :: u30 :: u31 :: u32 :: u33 :: u34 :: u35 :: u36 :: u37 :: u38 :: u39 :: u40 :: u41 :: u42 :: u43 :: u44 :: u45 :: u46 :: u47 :: u48 :: u49 :: u50 :: u51 :: u52 :: u53 :: u54 :: u55 :: u56 :: u57 :: u58 :: u59 :: u60 :: u61 :: u62 :: u63 :: u64 :: u65 :: u66 :: u67 :: u68 :: u69 :: u70 :: u71 :: u72 :: u73 :: u74 :: u75 :: u76 :: u77 :: u78 :: u79 :: u80 :: u81 :: u82 :: u83 :: u84 :: u85 :: u86 :: u87 :: u88 :: u89 :: u90 :: u91 :: u92 :: u93 :: u94 :: u95 :: u96 :: u97 :: u98 :: u99 :: u100 :: u101 :: u102 :: u103 :: u104 :: u105 :: u106 :: u107 :: u108 :: u109 :: u110 :: u111 :: u112 :: u113 :: u114 :: u115 :: u116 :: u117 :: u118 :: u119 :: u120 :: u121 :: u122 :: u123 :: u124 :: u125 :: u126 :: u127 :: u128 :: u129 :: u130 :: u131 :: u132 :: u133 :: u134 :: u135 :: []), []⟩ W') :
    Code.wp Ybaf.prog s8 Q ⟨List.toArray (.int .u8 (t : Int) :: .slice a L C :: c2 :: c3 :: c4 :: .slice (some ⟨g, 0, none⟩) n c :: .int .i64 (i : Int) :: .pointer (some ⟨q, 0, none⟩) :: c8 :: c9 :: c10 :: c11 :: c12 :: c13 :: c14 :: c15 :: c16 :: c17 :: c18 :: c19 :: c20 :: c21 :: c22 :: c23 :: c24 :: c25 :: c26 :: c27 :: c28 :: c29 :: c30 :: c31 :: c32 :: c33 :: c34 :: c35 :: c36 :: c37 :: c38 :: c39 :: c40 :: c41 :: c42 :: c43 :: c44 :: c45 :: c46 :: c47 :: c48 :: c49 :: c50 :: c51 :: c52 :: c53 :: c54 :: c55 :: c56 :: c57 :: c58 :: c59 :: c60 :: c61 :: c62 :: c63 :: c64 :: c65 :: c66 :: c67 :: c68 :: c69 :: c70 :: c71 :: c72 :: c73 :: c74 :: c75 :: c76 :: c77 :: c78 :: c79 :: c80 :: c81 :: c82 :: c83 :: c84 :: c85 :: c86 :: c87 :: c88 :: c89 :: c90 :: c91 :: c92 :: c93 :: c94 :: c95 :: c96 :: c97 :: c98 :: c99 :: c100 :: c101 :: c102 :: c103 :: c104 :: c105 :: c106 :: c107 :: c108 :: c109 :: c110 :: c111 :: c112 :: c113 :: c114 :: c115 :: c116 :: c117 :: c118 :: c119 :: c120 :: c121 :: c122 :: c123 :: c124 :: c125 :: c126 :: c127 :: c128 :: c129 :: c130 :: c131 :: c132 :: c133 :: c134 :: c135 :: []), []⟩ W := by
  have i0 := bq.cell 0 _ rfl
  have i1 := bq.cell 1 _ rfl
  have i2 := bq.cell 2 _ rfl
  have i3 := bq.cell 3 _ rfl
  have i4 := bq.cell 4 _ rfl
  have kE : Kept (fun _ => False) W (W.alloc (.cells #[.int .u8 ((num : Int) / 256), .int .u8 ((num : Int) % 256)] 5)) := (Kept.refl _ _).alloc _
  have bb := Box.new W #[.int .u8 ((num : Int) / 256), .int .u8 ((num : Int) % 256)] 5
  have hs : SrcOf (W.alloc (.cells #[.int .u8 ((num : Int) / 256), .int .u8 ((num : Int) % 256)] 5)) (some ⟨W.heap.size, 0, none⟩) 2 g := by
    refine .inr ⟨W.heap.size, 0, fun j => if j = 0 then (num : Int) / 256 else (num : Int) % 256, rfl, by omega, bb.lt, fun j hj => ?_⟩
    obtain rfl | rfl : j = 0 ∨ j = 1 := by omega
    · exact ⟨bb.cell 0 _ rfl, by simp; omega, by simp; omega⟩
    · exact ⟨bb.cell 1 _ rfl, by simp; omega, by simp; omega⟩
  clear bq bb
  conv => arg 2; whnf
  go_wp2_with fail
  exact hQ _ _ _ _ _ _ _ _ _ _ _ _ _ _ _ _ _ _ _ _ _ _ _ _ _ _ _ _ _ _ _ _ _ _ _ _ _ _ _ _ _ _ _ _ _ _ _ _ _ _ _ _ _ _ _ _ _ _ _ _ _ _ _ _ _ _ _ _ _ _ _ _ _ _ _ _ _ _ _ _ _ _ _ _ _ _ _ _ _ _ _ _ _ _ _ _ _ _ _ _ _ _ _ _ _ _ _ _ _ _ _ _ _ _ _ _ _ _ _ _ _ _ _ _ _ _ _ _ _ _ _ (by omega) (by omega) kE hs

set_option maxRecDepth 100000 in
set_option maxHeartbeats 4000000 in
theorem s8_two (t : Nat) (a : Option Addr) (L C g n c i q : Nat) (W : World) (Q : Exit → Act → World → Prop) (k num rn rc : Nat) (ra : Option Addr) (lg bd : Bool) (c2 c3 c4 c8 c9 c10 c11 c12 c13 c14 c15 c16 c17 c18 c19 c20 c21 c22 c23 c24 c25 c26 c27 c28 c29 c30 c31 c32 c33 c34 c35 c36 c37 c38 c39 c40 c41 c42 c43 c44 c45 c46 c47 c48 c49 c50 c51 c52 c53 c54 c55 c56 c57 c58 c59 c60 c61 c62 c63 c64 c65 c66 c67 c68 c69 c70 c71 c72 c73 c74 c75 c76 c77 c78 c79 c80 c81 c82 c83 c84 c85 c86 c87 c88 c89 c90 c91 c92 c93 c94 c95 c96 c97 c98 c99 c100 c101 c102 c103 c104 c105 c106 c107 c108 c109 c110 c111 c112 c113 c114 c115 c116 c117 c118 c119 c120 c121 c122 c123 c124 c125 c126 c127 c128 c129 c130 c131 c132 c133 c134 c135 : Value) (bq : Box W q [.int .u8 (k : Int), .int .u16 (num : Int), .slice ra rn rc, .bool lg, .bool bd]) (hk : k < 256) (h3 : k % 3 = 2) (hrc : rn ≤ rc) (hs : SrcOf W ra rn g)
    (hQ : ∀ (iei : Int) (va : Option Addr) (vn vc : Nat) (W' : World) (u10 u11 u12 u13 u14 u15 u16 u17 u18 u19 u20 u21 u22 u23 u24 u25 u26 u27 u28 u29 u30 u31 u32 u33 u34 u35 u36 u37 u38 u39 u40 u41 u42 u43 u44 u45 u46 u47 u48 u49 u50 u51 u52 u53 u54 u55 u56 u57 u58 u59 u60 u61 u62 u63 u64 u65 u66 u67 u68 u69 u70 u71 u72 u73 u74 u75 u76 u77 u78 u79 u80 u81 u82 u83 u84 u85 u86 u87 u88 u89 u90 u91 u92 u93 u94 u95 u96 u97 u98 u99 u100 u101 u102 u103 u104 u105 u106 u107 u108 u109 u110 u111 u112 u113 u114 u115 u116 u117 u118 u119 u120 u121 u122 u123 u124 u125 u126 u127 u128 u129 u130 u131 u132 u133 u134 u135 : Value), 0 ≤ iei ∧ iei ≤ 255 → vn ≤ 127 → Kept (fun _ => False) W W' → SrcOf W' va vn g → Q .normal ⟨List.toArray (.int .u8 (t : Int) :: .slice a L C :: c2 :: c3 :: c4 :: .slice (some ⟨g, 0, none⟩) n c :: .int .i64 (i : Int) :: .pointer (some ⟨q, 0, none⟩) :: .int .u8 iei :: .slice va vn vc :: u10 :: u11 :: u12 :: u13 :: u14 :: u15 :: u16 :: u17 :: u18 :: u19 :: u20 :: u21 :: u22 :: u23 :: u24 :: u25 :: u26 :: u27 :: u28 :: u29 :: u30 :: u31 :: u32 :: u33 :: u34 :: u35 :: u36 :: u37 :: u38 :: u39 :: u40 :: u41 :: u42 :: u43 :: u44 :: u45 :: u46 :: u47 :: u48 :: u49 :: u50 :: u51 :: u52 :: u53 :: u54 :: u55 :: u56 :: u57 :: u58 :: u59 :: u60 :: u61 :: u62 :: u63 :: u64 :: u65 :: u66 :: u67 :: u68 :: u69 :: u70 :: u71 :: u72 :: u73 :: u74 :: u75 :: u76 :: u77 :: u78 :: u79 :: u80 :: u81 :: u82 :: u83 :: u84 :: u85 :: u86 :: u87 :: u88 :: u89 :: u90 :: u91 :: u92 :: u93 :: u94 :: u95 :: u96 :: u97 :: u98 :: u99 :: u100 :: u101 :: u102 :: u103 :: u104 :: u105 :: u106 :: u107 :: u108 :: u109 :: u110 :: u111 :: u112 :: u113 :: u114 :: u115 :: u116 :: u117 :: u118 :: u119 :: u120 :: u121 :: u122 :: u123 :: u124 :: u125 :: u126 :: u127 :: u128 :: u129 :: u130 :: u131 :: u132 :: u133 :: u134 :: u135 :: []), []⟩ W') :
    Code.wp Ybaf.prog s8 Q ⟨List.toArray (.int .u8 (t : Int) :: .slice a L C :: c2 :: c3 :: c4 :: .slice (some ⟨g, 0, none⟩) n c :: .int .i64 (i : Int) :: .pointer (some ⟨q, 0, none⟩) :: c8 :: c9 :: c10 :: c11 :: c12 :: c13 :: c14 :: c15 :: c16 :: c17 :: c18 :: c19 :: c20 :: c21 :: c22 :: c23 :: c24 :: c25 :: c26 :: c27 :: c28 :: c29 :: c30 :: c31 :: c32 :: c33 :: c34 :: c35 :: c36 :: c37 :: c38 :: c39 :: c40 :: c41 :: c42 :: c43 :: c44 :: c45 :: c46 :: c47 :: c48 :: c49 :: c50 :: c51 :: c52 :: c53 :: c54 :: c55 :: c56 :: c57 :: c58 :: c59 :: c60 :: c61 :: c62 :: c63 :: c64 :: c65 :: c66 :: c67 :: c68 :: c69 :: c70 :: c71 :: c72 :: c73 :: c74 :: c75 :: c76 :: c77 :: c78 :: c79 :: c80 :: c81 :: c82 :: c83 :: c84 :: c85 :: c86 :: c87 :: c88 :: c89 :: c90 :: c91 :: c92 :: c93 :: c94 :: c95 :: c96 :: c97 :: c98 :: c99 :: c100 :: c101 :: c102 :: c103 :: c104 :: c105 :: c106 :: c107 :: c108 :: c109 :: c110 :: c111 :: c112 :: c113 :: c114 :: c115 :: c116 :: c117 :: c118 :: c119 :: c120 :: c121 :: c122 :: c123 :: c124 :: c125 :: c126 :: c127 :: c128 :: c129 :: c130 :: c131 :: c132 :: c133 :: c134 :: c135 :: []), []⟩ W := by
  have i0 := bq.cell 0 _ rfl
  have i1 := bq.cell 1 _ rfl
  have i2 := bq.cell 2 _ rfl
  have i3 := bq.cell 3 _ rfl
  have i4 := bq.cell 4 _ rfl
  have hrc' : (rn : Int) ≤ rc := by omega
  have hx : ∀ m, m ≤ rn → SrcOf W ra m g := fun m h => hs.less h
  clear bq
  conv => arg 2; whnf
  go_wp2_with fail
  all_goals exact hQ _ _ _ _ _ _ _ _ _ _ _ _ _ _ _ _ _ _ _ _ _ _ _ _ _ _ _ _ _ _ _ _ _ _ _ _ _ _ _ _ _ _ _ _ _ _ _ _ _ _ _ _ _ _ _ _ _ _ _ _ _ _ _ _ _ _ _ _ _ _ _ _ _ _ _ _ _ _ _ _ _ _ _ _ _ _ _ _ _ _ _ _ _ _ _ _ _ _ _ _ _ _ _ _ _ _ _ _ _ _ _ _ _ _ _ _ _ _ _ _ _ _ _ _ _ _ _ _ _ _ _ (by first | omega | exact bits_u8 _ _ _) (by omega) (Kept.refl _ _) (hx _ (by omega))

set_option maxRecDepth 100000 in
set_option maxHeartbeats 4000000 in
theorem s8_one (t : Nat) (a : Option Addr) (L C g n c i q : Nat) (W : World) (Q : Exit → Act → World → Prop) (k num rn rc : Nat) (ra : Option Addr) (lg bd : Bool) (c2 c3 c4 c8 c9 c10 c11 c12 c13 c14 c15 c16 c17 c18 c19 c20 c21 c22 c23 c24 c25 c26 c27 c28 c29 c30 c31 c32 c33 c34 c35 c36 c37 c38 c39 c40 c41 c42 c43 c44 c45 c46 c47 c48 c49 c50 c51 c52 c53 c54 c55 c56 c57 c58 c59 c60 c61 c62 c63 c64 c65 c66 c67 c68 c69 c70 c71 c72 c73 c74 c75 c76 c77 c78 c79 c80 c81 c82 c83 c84 c85 c86 c87 c88 c89 c90 c91 c92 c93 c94 c95 c96 c97 c98 c99 c100 c101 c102 c103 c104 c105 c106 c107 c108 c109 c110 c111 c112 c113 c114 c115 c116 c117 c118 c119 c120 c121 c122 c123 c124 c125 c126 c127 c128 c129 c130 c131 c132 c133 c134 c135 : Value) (bq : Box W q [.int .u8 (k : Int), .int .u16 (num : Int), .slice ra rn rc, .bool lg, .bool bd]) (hk : k < 256) (hgW : g < W.heap.size) (h3 : k % 3 = 1) (hs : SrcOf W ra rn g)
    (hQ : ∀ (iei : Int) (va : Option Addr) (vn vc : Nat) (W' : World) (u10 u11 u12 u13 u14 u15 u16 u17 u18 u19 u20 u21 u22 u23 u24 u25 u26 u27 u28 u29 u30 u31 u32 u33 u34 u35 u36 u37 u38 u39 u40 u41 u42 u43 u44 u45 u46 u47 u48 u49 u50 u51 u52 u53 u54 u55 u56 u57 u58 u59 u60 u61 u62 u63 u64 u65 u66 u67 u68 u69 u70 u71 u72 u73 u74 u75 u76 u77 u78 u79 u80 u81 u82 u83 u84 u85 u86 u87 u88 u89 u90 u91 u92 u93 u94 u95 u96 u97 u98 u99 u100 u101 u102 u103 u104 u105 u106 u107 u108 u109 u110 u111 u112 u113 u114 u115 u116 u117 u118 u119 u120 u121 u122 u123 u124 u125 u126 u127 u128 u129 u130 u131 u132 u133 u134 u135 : Value), 0 ≤ iei ∧ iei ≤ 255 → vn ≤ 127 → Kept (fun _ => False) W W' → SrcOf W' va vn g → Q .normal ⟨List.toArray (.int .u8 (t : Int) :: .slice a L C :: c2 :: c3 :: c4 :: .slice (some ⟨g, 0, none⟩) n c :: .int .i64 (i : Int) :: .pointer (some ⟨q, 0, none⟩) :: .int .u8 iei :: .slice va vn vc :: u10 :: u11 :: u12 :: u13 :: u14 :: u15 :: u16 :: u17 :: u18 :: u19 :: u20 :: u21 :: u22 :: u23 :: u24 :: u25 :: u26 :: u27 :: u28 :: u29 :: u30 :: u31 :: u32 :: u33 :: u34 :: u35 :: u36 :: u37 :: u38 :: u39 :: u40 :: u41 :: u42 :: u43 :: u44 :: u45 :: u46 :: u47 :: u48 :: u49 :: u50 :: u51 :: u52 :: u53 :: u54 :: u55 :: u56 :: u57 :: u58 :: u59 :: u60 :: u61 :: u62 :: u63 :: u64 :: u65 :: u66 :: u67 :: u68 :: u69 :: u70 :: u71 :: u72 :: u73 :: u74 :: u75 :: u76 :: u77 :: u78 :: u79 :: u80 :: u81 :: u82 :: u83 :: u84 :: u85 :: u86 :: u87 :: u88 :: u89 :: u90 :: u91 :: u92 :: u93 :: u94 :: u95 :: u96 :: u97 :: u98 :: u99 :: u100 :: u101 :: u102 :: u103 :: u104 :: u105 :: u106 :: u107 :: u108 :: u109 :: u110 :: u111 :: u112 :: u113 :: u114 :: u115 :: u116 :: u117 :: u118 :: u119 :: u120 :: u121 :: u122 :: u123 :: u124 :: u125 :: u126 :: u127 :: u128 :: u129 :: u130 :: u131 :: u132 :: u133 :: u134 :: u135 :: []), []⟩ W') :
    Code.wp Ybaf.prog s8 Q ⟨List.toArray (.int .u8 (t : Int) :: .slice a L C :: c2 :: c3 :: c4 :: .slice (some ⟨g, 0, none⟩) n c :: .int .i64 (i : Int) :: .pointer (some ⟨q, 0, none⟩) :: c8 :: c9 :: c10 :: c11 :: c12 :: c13 :: c14 :: c15 :: c16 :: c17 :: c18 :: c19 :: c20 :: c21 :: c22 :: c23 :: c24 :: c25 :: c26 :: c27 :: c28 :: c29 :: c30 :: c31 :: c32 :: c33 :: c34 :: c35 :: c36 :: c37 :: c38 :: c39 :: c40 :: c41 :: c42 :: c43 :: c44 :: c45 :: c46 :: c47 :: c48 :: c49 :: c50 :: c51 :: c52 :: c53 :: c54 :: c55 :: c56 :: c57 :: c58 :: c59 :: c60 :: c61 :: c62 :: c63 :: c64 :: c65 :: c66 :: c67 :: c68 :: c69 :: c70 :: c71 :: c72 :: c73 :: c74 :: c75 :: c76 :: c77 :: c78 :: c79 :: c80 :: c81 :: c82 :: c83 :: c84 :: c85 :: c86 :: c87 :: c88 :: c89 :: c90 :: c91 :: c92 :: c93 :: c94 :: c95 :: c96 :: c97 :: c98 :: c99 :: c100 :: c101 :: c102 :: c103 :: c104 :: c105 :: c106 :: c107 :: c108 :: c109 :: c110 :: c111 :: c112 :: c113 :: c114 :: c115 :: c116 :: c117 :: c118 :: c119 :: c120 :: c121 :: c122 :: c123 :: c124 :: c125 :: c126 :: c127 :: c128 :: c129 :: c130 :: c131 :: c132 :: c133 :: c134 :: c135 :: []), []⟩ W := by
  have i0 := bq.cell 0 _ rfl
  have i1 := bq.cell 1 _ rfl
  have i2 := bq.cell 2 _ rfl
  have i3 := bq.cell 3 _ rfl
  have i4 := bq.cell 4 _ rfl
  have q0 : (((k : Int) % 3) == 0) = false := by simp; omega
  have q1 : (((k : Int) % 3) == 1) = true := by simp; omega
  have hmk : (Instr.makeSlice 30 (.int .i64 8) (.int .i64 8)).run Ybaf.prog W = .ok (.slice (some ⟨W.heap.size, 0, none⟩) 8 8) (W.alloc (.cells (madeCells #[.int .u8 0] 8) 5)) := make30 8 (by omega) W
  obtain ⟨W1, hW1⟩ : ∃ W1, W1 = W.alloc (.cells (madeCells #[.int .u8 0] 8) 5) := ⟨_, rfl⟩
  have row0 : Row W1 W.heap.size 0 8 (fun _ => 0) := by rw [hW1]; exact Row.made W 5 8
  have k1 : Kept (fun _ => False) W W1 := by rw [hW1]; exact (Kept.refl _ _).alloc _
  have z1 : W.heap.size < W1.heap.size := by rw [hW1]; simp
  have bq1 := bq.kept k1 id
  have hqW := bq.lt
  have hs1 : SrcOf W1 ra rn W.heap.size := by
    rcases hs with h | ⟨h, oh, Y, e, h1, h2, h3⟩
    · exact .inl h
    · exact .inr ⟨h, oh, Y, e, by omega, by omega, fun j hj => ⟨(k1.cell (p := ⟨h, oh + j, none⟩) h2 id).trans (h3 j hj).1, (h3 j hj).2⟩⟩
  rw [← hW1] at hmk
  clear hW1 hs
  have H1 : Hid (Row W1 W.heap.size 0 8 (fun _ => 0)) := row0
  have H2 : Hid (SrcOf W1 ra rn W.heap.size) := hs1
  clear row0 hs1
  have hfin1 : ∀ w2, Kept (· = W.heap.size) W1 w2 → (∃ R : Nat → Int, Row w2 W.heap.size 0 8 R ∧ ∀ m, m < 8 → 0 ≤ R m ∧ R m ≤ 255) → Kept (fun _ => False) W w2 ∧ SrcOf w2 (some ⟨W.heap.size, 0, none⟩) 8 g := by
    intro w2 kk hR
    obtain ⟨R, row, hb⟩ := hR
    refine ⟨?_, .inr ⟨W.heap.size, 0, R, rfl, by omega, Nat.lt_of_lt_of_le z1 kk.size, fun m hm => ⟨row.cell m hm, hb m hm⟩⟩⟩
    have k2 : Kept (fun x => x = W.heap.size) W w2 := (k1.mono fun _ _ h => h.elim).trans kk
    exact k2.mono fun x hx h => by omega
  conv => arg 2; whnf
  go_wp2_with fail
  go_loopw [10] (fun jv wr => ∃ j : Nat, j ≤ 8 ∧ j ≤ rn ∧ jv = .int .i64 j ∧ Hid (∃ R : Nat → Int, Row wr W.heap.size 0 8 R ∧ ∀ m, m < 8 → 0 ≤ R m ∧ R m ≤ 255) ∧ Hid (Kept (· = W.heap.size) W1 wr)) (fun jv _ => 8 - (intOf jv).toNat)
  case atStart => exact ⟨0, by omega, by omega, rfl, ⟨_, H1.out, fun m _ => by simp⟩, Kept.refl _ _⟩
  case round =>
    obtain ⟨j, hj, hjr, rfl, hR, hK⟩ := hrel
    have bqr := bq1.kept hK.out (by omega)
    have r2 := bqr.cell 2 _ rfl
    by_cases h8 : j < 8
    · by_cases hr : j < rn
      · obtain ⟨R, row, hb⟩ := hR.out
        have e1 := row.cell j h8
        have e2 := row.frz j h8
        rw [Nat.zero_add] at e1 e2
        rcases H2.out with h0 | ⟨h, oh, Y, rfl, hh1, hh2, hY⟩
        · omega
        have y1 := (hK.out.cell (p := ⟨h, oh + j, none⟩) hh2 hh1).trans (hY j hr).1
        have y2 := (hY j hr).2
        have hfin : Hid (∃ R' : Nat → Int, Row (wr.setCell ⟨W.heap.size, j, none⟩ (.int .u8 (Y j))) W.heap.size 0 8 R' ∧ ∀ m, m < 8 → 0 ≤ R' m ∧ R' m ≤ 255) := ⟨_, row.set1 h8 (Y j), fun m hm => by
          by_cases e : m = j
          · subst e; simpa using y2
          · simpa [e] using hb m hm⟩
        have hfk : Hid (Kept (· = W.heap.size) W1 (wr.setCell ⟨W.heap.size, j, none⟩ (.int .u8 (Y j)))) := Kept.setCell (a := ⟨W.heap.size, j, none⟩) hK.out (.inl rfl) _
        clear hR hK row hb hY
        go_wp2_with fail
        go_roundw
        case rel => exact ⟨j + 1, by omega, by omega, by go_num, hfin, hfk⟩
        case measure => simp [intOf]; omega
      · have hend := hfin1 wr hK.out hR.out
        have r4 := bqr.cell 4 _ rfl
        obtain ⟨wo, hwo⟩ : ∃ wo : World, wo = wr := ⟨_, rfl⟩
        rw [← hwo] at hR hK r2 r4 hend ⊢
        clear hwo bqr
        cases bd with
        | true =>
          go_wp2_with fail
          exact hQ _ _ _ _ _ _ _ _ _ _ _ _ _ _ _ _ _ _ _ _ _ _ _ _ _ _ _ _ _ _ _ _ _ _ _ _ _ _ _ _ _ _ _ _ _ _ _ _ _ _ _ _ _ _ _ _ _ _ _ _ _ _ _ _ _ _ _ _ _ _ _ _ _ _ _ _ _ _ _ _ _ _ _ _ _ _ _ _ _ _ _ _ _ _ _ _ _ _ _ _ _ _ _ _ _ _ _ _ _ _ _ _ _ _ _ _ _ _ _ _ _ _ _ _ _ _ _ _ _ _ _ (by omega) (by omega) hend.1 hend.2
        | false =>
          clear hend
          have hR0 : Hid (∃ R : Nat → Int, Row wo W.heap.size 0 8 R ∧ ∀ m, m < 8 → 0 ≤ R m ∧ R m ≤ 255) := hR.out
          have hK0 : Hid (Kept (· = W.heap.size) W1 wo) := hK.out
          clear hR hK
          go_wp2_with fail
          go_loopw [11] (fun jv wr => ∃ j : Nat, j ≤ 3 ∧ jv = .int .i64 j ∧ Hid (∃ R : Nat → Int, Row wr W.heap.size 0 8 R ∧ ∀ m, m < 8 → 0 ≤ R m ∧ R m ≤ 255) ∧ Hid (Kept (· = W.heap.size) W1 wr)) (fun jv _ => 3 - (intOf jv).toNat)
          case atStart => exact ⟨0, by omega, rfl, hR0, hK0⟩
          case round =>
            obtain ⟨j, hj, rfl, hR, hK⟩ := hrel
            by_cases h3' : j < 3
            · obtain ⟨R, row, hb⟩ := hR.out
              have e1 := row.cell j (by omega)
              have e2 := row.frz j (by omega)
              rw [Nat.zero_add] at e1 e2
              have hbj := hb j (by omega)
              have hfin : Hid (∀ x : Int, 0 ≤ x ∧ x ≤ 255 → ∃ R' : Nat → Int, Row (wr.setCell ⟨W.heap.size, j, none⟩ (.int .u8 x)) W.heap.size 0 8 R' ∧ ∀ m, m < 8 → 0 ≤ R' m ∧ R' m ≤ 255) := fun x hx => ⟨_, row.set1 (by omega) x, fun m hm => by
                by_cases e : m = j
                · subst e; simpa using hx
                · simpa [e] using hb m hm⟩
              have hfk : Hid (∀ x : Int, Kept (· = W.heap.size) W1 (wr.setCell ⟨W.heap.size, j, none⟩ (.int .u8 x))) := fun x => Kept.setCell (a := ⟨W.heap.size, j, none⟩) hK.out (.inl rfl) _
              clear hR hK hR0 hK0 row hb
              go_wp2_with fail
              all_goals
                go_roundw
                case rel => exact ⟨j + 1, by omega, by go_num, hfin.out _ (bits_u8 _ _ _), hfk.out _⟩
                case measure => simp [intOf]; omega
            · have hend := hfin1 wr hK.out hR.out
              clear hR hK hR0 hK0
              go_wp2_with fail
              exact hQ _ _ _ _ _ _ _ _ _ _ _ _ _ _ _ _ _ _ _ _ _ _ _ _ _ _ _ _ _ _ _ _ _ _ _ _ _ _ _ _ _ _ _ _ _ _ _ _ _ _ _ _ _ _ _ _ _ _ _ _ _ _ _ _ _ _ _ _ _ _ _ _ _ _ _ _ _ _ _ _ _ _ _ _ _ _ _ _ _ _ _ _ _ _ _ _ _ _ _ _ _ _ _ _ _ _ _ _ _ _ _ _ _ _ _ _ _ _ _ _ _ _ _ _ _ _ _ _ _ _ _ (by omega) (by omega) hend.1 hend.2
    · have hend := hfin1 wr hK.out hR.out
      have r4 := bqr.cell 4 _ rfl
      obtain ⟨wo, hwo⟩ : ∃ wo : World, wo = wr := ⟨_, rfl⟩
      rw [← hwo] at hR hK r2 r4 hend ⊢
      clear hwo bqr
      cases bd with
      | true =>
        go_wp2_with fail
        exact hQ _ _ _ _ _ _ _ _ _ _ _ _ _ _ _ _ _ _ _ _ _ _ _ _ _ _ _ _ _ _ _ _ _ _ _ _ _ _ _ _ _ _ _ _ _ _ _ _ _ _ _ _ _ _ _ _ _ _ _ _ _ _ _ _ _ _ _ _ _ _ _ _ _ _ _ _ _ _ _ _ _ _ _ _ _ _ _ _ _ _ _ _ _ _ _ _ _ _ _ _ _ _ _ _ _ _ _ _ _ _ _ _ _ _ _ _ _ _ _ _ _ _ _ _ _ _ _ _ _ _ _ (by omega) (by omega) hend.1 hend.2
      | false =>
        clear hend
        have hR0 : Hid (∃ R : Nat → Int, Row wo W.heap.size 0 8 R ∧ ∀ m, m < 8 → 0 ≤ R m ∧ R m ≤ 255) := hR.out
        have hK0 : Hid (Kept (· = W.heap.size) W1 wo) := hK.out
        clear hR hK
        go_wp2_with fail
        go_loopw [11] (fun jv wr => ∃ j : Nat, j ≤ 3 ∧ jv = .int .i64 j ∧ Hid (∃ R : Nat → Int, Row wr W.heap.size 0 8 R ∧ ∀ m, m < 8 → 0 ≤ R m ∧ R m ≤ 255) ∧ Hid (Kept (· = W.heap.size) W1 wr)) (fun jv _ => 3 - (intOf jv).toNat)
        case atStart => exact ⟨0, by omega, rfl, hR0, hK0⟩
        case round =>
          obtain ⟨j, hj, rfl, hR, hK⟩ := hrel
          by_cases h3' : j < 3
          · obtain ⟨R, row, hb⟩ := hR.out
            have e1 := row.cell j (by omega)
            have e2 := row.frz j (by omega)
            rw [Nat.zero_add] at e1 e2
            have hbj := hb j (by omega)
            have hfin : Hid (∀ x : Int, 0 ≤ x ∧ x ≤ 255 → ∃ R' : Nat → Int, Row (wr.setCell ⟨W.heap.size, j, none⟩ (.int .u8 x)) W.heap.size 0 8 R' ∧ ∀ m, m < 8 → 0 ≤ R' m ∧ R' m ≤ 255) := fun x hx => ⟨_, row.set1 (by omega) x, fun m hm => by
              by_cases e : m = j
              · subst e; simpa using hx
              · simpa [e] using hb m hm⟩
            have hfk : Hid (∀ x : Int, Kept (· = W.heap.size) W1 (wr.setCell ⟨W.heap.size, j, none⟩ (.int .u8 x))) := fun x => Kept.setCell (a := ⟨W.heap.size, j, none⟩) hK.out (.inl rfl) _
            clear hR hK hR0 hK0 row hb
            go_wp2_with fail
            all_goals
              go_roundw
              case rel => exact ⟨j + 1, by omega, by go_num, hfin.out _ (bits_u8 _ _ _), hfk.out _⟩
              case measure => simp [intOf]; omega
          · have hend := hfin1 wr hK.out hR.out
            clear hR hK hR0 hK0
            go_wp2_with fail
            exact hQ _ _ _ _ _ _ _ _ _ _ _ _ _ _ _ _ _ _ _ _ _ _ _ _ _ _ _ _ _ _ _ _ _ _ _ _ _ _ _ _ _ _ _ _ _ _ _ _ _ _ _ _ _ _ _ _ _ _ _ _ _ _ _ _ _ _ _ _ _ _ _ _ _ _ _ _ _ _ _ _ _ _ _ _ _ _ _ _ _ _ _ _ _ _ _ _ _ _ _ _ _ _ _ _ _ _ _ _ _ _ _ _ _ _ _ _ _ _ _ _ _ _ _ _ _ _ _ _ _ _ _ (by omega) (by omega) hend.1 hend.2

/-- A row of octets of the call's own. -/
structure OwnRow (B : Nat) (W : World) (g n c : Nat) : Prop where
  row : ∃ R : Nat → Int, Row W g 0 c R ∧ ∀ j, j < n → 0 ≤ R j ∧ R j ≤ 255
  cap : n ≤ c
  base : B ≤ g
  lt : g < W.heap.size

theorem OwnRow.kept {B : Nat} {W W' : World} {g n c : Nat} {S : Nat → Prop} (o : OwnRow B W g n c) (k : Kept S W W') (hS : ¬ S g) : OwnRow B W' g n c := by
  obtain ⟨R, row, hb⟩ := o.row
  exact ⟨⟨R, row.kept k o.lt hS, hb⟩, o.cap, o.base, Nat.lt_of_lt_of_le o.lt k.size⟩

theorem own_append (B : Nat) (W : World) (g n c : Nat) (a : Option Addr) (m c2 : Nat) (o : OwnRow B W g n c) (hs : SrcOf W a m g) (hnm : n + m ≤ 1000000) :
    ∃ g' cap W1, (Builtin.append_ #[30, 30] 30 #[.slice (some ⟨g, 0, none⟩) n c, .slice a m c2]).run Ybaf.prog W = .ok (.slice (some ⟨g', 0, none⟩) (n + m) cap) W1 ∧ OwnRow B W1 g' (n + m) cap ∧ (g' = g ∨ W.heap.size ≤ g') ∧ Kept (· = g) W W1 := by
  obtain ⟨R, row, hb⟩ := o.row
  have key : ∃ Y : Nat → Int, Source W a m Y ∧ ∀ j, j < m → 0 ≤ Y j ∧ Y j ≤ 255 := by
    rcases hs with rfl | ⟨h, oh, Y, rfl, _, _, hY⟩
    · exact ⟨fun _ => 0, .inl rfl, fun j hj => by omega⟩
    · exact ⟨Y, .inr ⟨h, oh, rfl, fun j hj => (hY j hj).1⟩, fun j hj => (hY j hj).2⟩
  obtain ⟨Y, hY, hYb⟩ := key
  obtain ⟨g', cap, W1, R', hap, hcap, hg', hlt, kk, row', h1, h2⟩ := append30_any 30 g n c a m c2 R Y W row o.lt o.cap hY hnm
  have := o.base
  have := o.lt
  refine ⟨g', cap, W1, hap, ⟨⟨R', row', fun j hj => ?_⟩, hcap, by omega, hlt⟩, by omega, kk⟩
  by_cases e : j < n
  · rw [h1 j e]; exact hb j e
  · rw [h2 j (by omega) hj]; exact hYb _ (by omega)


set_option maxRecDepth 100000 in
set_option maxHeartbeats 4000000 in
theorem t37_long (t : Nat) (a : Option Addr) (L C g n c i q : Nat) (W : World) (Q : Exit → Act → World → Prop) (B : Nat) (iei : Int) (va : Option Addr) (vn vc : Nat) (k num rn rc : Nat) (ra : Option Addr) (bd : Bool) (c2 c3 c4 c10 c11 c12 c13 c14 c15 c16 c17 c18 c19 c20 c21 c22 c23 c24 c25 c26 c27 c28 c29 c30 c31 c32 c33 c34 c35 c36 c37 c38 c39 c40 c41 c42 c43 c44 c45 c46 c47 c48 c49 c50 c51 c52 c53 c54 c55 c56 c57 c58 c59 c60 c61 c62 c63 c64 c65 c66 c67 c68 c69 c70 c71 c72 c73 c74 c75 c76 c77 c78 c79 c80 c81 c82 c83 c84 c85 c86 c87 c88 c89 c90 c91 c92 c93 c94 c95 c96 c97 c98 c99 c100 c101 c102 c103 c104 c105 c106 c107 c108 c109 c110 c111 c112 c113 c114 c115 c116 c117 c118 c119 c120 c121 c122 c123 c124 c125 c126 c127 c128 c129 c130 c131 c132 c133 c134 c135 : Value) (bq : Box W q [.int .u8 (k : Int), .int .u16 (num : Int), .slice ra rn rc, .bool true, .bool bd]) (hqg : q ≠ g) (o : OwnRow B W g n c) (hs : SrcOf W va vn g)
    (hi : 0 ≤ iei ∧ iei ≤ 255) (hvn : vn ≤ 127) (hn : n ≤ 60000)
    (hQ : ∀ (g' n' c' : Nat) (W' : World) (u10 u11 u12 u13 u14 u15 u16 u17 u18 u19 u20 u21 u22 u23 u24 u25 u26 u27 u28 u29 u30 u31 u32 u33 u34 u35 u36 u37 u38 u39 u40 u41 u42 u43 u44 u45 u46 u47 u48 u49 u50 u51 u52 u53 u54 u55 u56 u57 u58 u59 u60 u61 u62 u63 u64 u65 u66 u67 u68 u69 u70 u71 u72 u73 u74 u75 u76 u77 u78 u79 u80 u81 u82 u83 u84 u85 u86 u87 u88 u89 u90 u91 u92 u93 u94 u95 u96 u97 u98 u99 u100 u101 u102 u103 u104 u105 u106 u107 u108 u109 u110 u111 u112 u113 u114 u115 u116 u117 u118 u119 u120 u121 u122 u123 u124 u125 u126 u127 u128 u129 u130 u131 u132 u133 u134 u135 : Value), OwnRow B W' g' n' c' → n ≤ n' → n' ≤ n + 130 → Kept (· = g) W W' → Q .normal ⟨List.toArray (.int .u8 (t : Int) :: .slice a L C :: c2 :: c3 :: c4 :: .slice (some ⟨g', 0, none⟩) n' c' :: .int .i64 (i : Int) :: .pointer (some ⟨q, 0, none⟩) :: .int .u8 iei :: .slice va vn vc :: u10 :: u11 :: u12 :: u13 :: u14 :: u15 :: u16 :: u17 :: u18 :: u19 :: u20 :: u21 :: u22 :: u23 :: u24 :: u25 :: u26 :: u27 :: u28 :: u29 :: u30 :: u31 :: u32 :: u33 :: u34 :: u35 :: u36 :: u37 :: u38 :: u39 :: u40 :: u41 :: u42 :: u43 :: u44 :: u45 :: u46 :: u47 :: u48 :: u49 :: u50 :: u51 :: u52 :: u53 :: u54 :: u55 :: u56 :: u57 :: u58 :: u59 :: u60 :: u61 :: u62 :: u63 :: u64 :: u65 :: u66 :: u67 :: u68 :: u69 :: u70 :: u71 :: u72 :: u73 :: u74 :: u75 :: u76 :: u77 :: u78 :: u79 :: u80 :: u81 :: u82 :: u83 :: u84 :: u85 :: u86 :: u87 :: u88 :: u89 :: u90 :: u91 :: u92 :: u93 :: u94 :: u95 :: u96 :: u97 :: u98 :: u99 :: u100 :: u101 :: u102 :: u103 :: u104 :: u105 :: u106 :: u107 :: u108 :: u109 :: u110 :: u111 :: u112 :: u113 :: u114 :: u115 :: u116 :: u117 :: u118 :: u119 :: u120 :: u121 :: u122 :: u123 :: u124 :: u125 :: u126 :: u127 :: u128 :: u129 :: u130 :: u131 :: u132 :: u133 :: u134 :: u135 :: []), []⟩ W') :
    Code.wp Ybaf.prog t37 Q ⟨List.toArray (.int .u8 (t : Int) :: .slice a L C :: c2 :: c3 :: c4 :: .slice (some ⟨g, 0, none⟩) n c :: .int .i64 (i : Int) :: .pointer (some ⟨q, 0, none⟩) :: .int .u8 iei :: .slice va vn vc :: c10 :: c11 :: c12 :: c13 :: c14 :: c15 :: c16 :: c17 :: c18 :: c19 :: c20 :: c21 :: c22 :: c23 :: c24 :: c25 :: c26 :: c27 :: c28 :: c29 :: c30 :: c31 :: c32 :: c33 :: c34 :: c35 :: c36 :: c37 :: c38 :: c39 :: c40 :: c41 :: c42 :: c43 :: c44 :: c45 :: c46 :: c47 :: c48 :: c49 :: c50 :: c51 :: c52 :: c53 :: c54 :: c55 :: c56 :: c57 :: c58 :: c59 :: c60 :: c61 :: c62 :: c63 :: c64 :: c65 :: c66 :: c67 :: c68 :: c69 :: c70 :: c71 :: c72 :: c73 :: c74 :: c75 :: c76 :: c77 :: c78 :: c79 :: c80 :: c81 :: c82 :: c83 :: c84 :: c85 :: c86 :: c87 :: c88 :: c89 :: c90 :: c91 :: c92 :: c93 :: c94 :: c95 :: c96 :: c97 :: c98 :: c99 :: c100 :: c101 :: c102 :: c103 :: c104 :: c105 :: c106 :: c107 :: c108 :: c109 :: c110 :: c111 :: c112 :: c113 :: c114 :: c115 :: c116 :: c117 :: c118 :: c119 :: c120 :: c121 :: c122 :: c123 :: c124 :: c125 :: c126 :: c127 :: c128 :: c129 :: c130 :: c131 :: c132 :: c133 :: c134 :: c135 :: []), []⟩ W := by
  have hqW := bq.lt
  have hgW := o.lt
  have kA : Kept (fun _ => False) W (W.alloc (.cells #[.int .u8 iei] 5)) := (Kept.refl _ _).alloc _
  have bA := Box.new W #[.int .u8 iei] 5
  have sA : SrcOf (W.alloc (.cells #[.int .u8 iei] 5)) (some ⟨W.heap.size, 0, none⟩) 1 g := .inr ⟨W.heap.size, 0, fun _ => iei, rfl, by omega, bA.lt, fun j hj => by
    obtain rfl : j = 0 := by omega
    exact ⟨bA.cell 0 _ rfl, hi⟩⟩
  obtain ⟨g1, c1', W1, hap1, o1, hg1, k1⟩ := own_append B _ g n c (some ⟨W.heap.size, 0, none⟩) 1 1 (o.kept kA id) sA (by omega)
  have kW1 : Kept (· = g) W W1 := (kA.mono fun _ _ h => h.elim).trans k1
  have hg1' : g1 = g ∨ W.heap.size ≤ g1 := by rcases hg1 with h | h; exact .inl h; rw [World.size_alloc] at h; exact .inr (by omega)
  have bq1 := bq.kept kW1 hqg
  have i3 := bq1.cell 3 _ rfl
  have s1 : SrcOf W1 va vn g1 := hs.kept kW1 (fun _ h => h) hg1'
  have kB : Kept (fun _ => False) W1 (W1.alloc (.cells #[.int .u8 0, .int .u8 (vn : Int)] 5)) := (Kept.refl _ _).alloc _
  have bB := Box.new W1 #[.int .u8 0, .int .u8 (vn : Int)] 5
  have hg1W := o1.lt
  have sB : SrcOf (W1.alloc (.cells #[.int .u8 0, .int .u8 (vn : Int)] 5)) (some ⟨W1.heap.size, 0, none⟩) 2 g1 := .inr ⟨W1.heap.size, 0, fun j => if j = 0 then 0 else (vn : Int), rfl, by omega, bB.lt, fun j hj => by
    obtain rfl | rfl : j = 0 ∨ j = 1 := by omega
    · exact ⟨bB.cell 0 _ rfl, by simp, by simp⟩
    · exact ⟨bB.cell 1 _ rfl, by simp, by simp; omega⟩⟩
  obtain ⟨g2, c2', W2, hap2, o2, hg2, k2⟩ := own_append B _ g1 (n + 1) c1' (some ⟨W1.heap.size, 0, none⟩) 2 2 (o1.kept kB id) sB (by omega)
  have kS1 : Kept (fun x => x = g ∨ W.heap.size ≤ x) W W1 := kW1.mono fun _ _ h => .inl h
  have kW2 : Kept (fun x => x = g ∨ W.heap.size ≤ x) W W2 := kS1.trans ((kB.mono fun _ _ h => h.elim).trans (k2.mono fun x hx h => by have := kW1.size; omega))
  have hg2' : g2 = g1 ∨ W1.heap.size ≤ g2 := by rcases hg2 with h | h; exact .inl h; rw [World.size_alloc] at h; exact .inr (by omega)
  have s2 : SrcOf W2 va vn g2 := s1.kept ((kB.mono fun _ _ h => h.elim).trans k2) (fun _ h => h) hg2'
  obtain ⟨g3, c3', W3, hap3, o3, hg3, k3⟩ := own_append B W2 g2 _ c2' va vn vc o2 s2 (by omega)
  have kS3 : Kept (fun x => x = g ∨ W.heap.size ≤ x) W W3 := kW2.trans (k3.mono fun x hx h => by have := kW1.size; have := kB.size; omega)
  have kW3 : Kept (· = g) W W3 := kS3.mono fun x hx h => by omega
  clear hs s1 s2 sA sB o o1 o2 bq bq1 k1 k2 k3 kA kB kW1 kW2 kS1 kS3 bA bB hg1 hg2 hg3 hg1' hg2'
  conv => arg 2; whnf
  go_wp2_with (at_builtin; go_must (first | (refine Lib.wpList_append_run _ rfl _ _ 30 30 rfl _ _ rfl rfl _ _ hap1 ?_; clear hap1) | (refine Lib.wpList_append_run _ rfl _ _ 30 30 rfl _ _ rfl rfl _ _ hap2 ?_; clear hap2) | (refine Lib.wpList_append_run _ rfl _ _ 30 30 rfl _ _ rfl rfl _ _ hap3 ?_; clear hap3)))
  exact hQ _ _ _ _ _ _ _ _ _ _ _ _ _ _ _ _ _ _ _ _ _ _ _ _ _ _ _ _ _ _ _ _ _ _ _ _ _ _ _ _ _ _ _ _ _ _ _ _ _ _ _ _ _ _ _ _ _ _ _ _ _ _ _ _ _ _ _ _ _ _ _ _ _ _ _ _ _ _ _ _ _ _ _ _ _ _ _ _ _ _ _ _ _ _ _ _ _ _ _ _ _ _ _ _ _ _ _ _ _ _ _ _ _ _ _ _ _ _ _ _ _ _ _ _ _ _ _ _ _ _ o3 (by omega) (by omega) kW3

set_option maxRecDepth 100000 in
set_option maxHeartbeats 4000000 in
theorem t37_short (t : Nat) (a : Option Addr) (L C g n c i q : Nat) (W : World) (Q : Exit → Act → World → Prop) (B : Nat) (iei : Int) (va : Option Addr) (vn vc : Nat) (k num rn rc : Nat) (ra : Option Addr) (bd : Bool) (c2 c3 c4 c10 c11 c12 c13 c14 c15 c16 c17 c18 c19 c20 c21 c22 c23 c24 c25 c26 c27 c28 c29 c30 c31 c32 c33 c34 c35 c36 c37 c38 c39 c40 c41 c42 c43 c44 c45 c46 c47 c48 c49 c50 c51 c52 c53 c54 c55 c56 c57 c58 c59 c60 c61 c62 c63 c64 c65 c66 c67 c68 c69 c70 c71 c72 c73 c74 c75 c76 c77 c78 c79 c80 c81 c82 c83 c84 c85 c86 c87 c88 c89 c90 c91 c92 c93 c94 c95 c96 c97 c98 c99 c100 c101 c102 c103 c104 c105 c106 c107 c108 c109 c110 c111 c112 c113 c114 c115 c116 c117 c118 c119 c120 c121 c122 c123 c124 c125 c126 c127 c128 c129 c130 c131 c132 c133 c134 c135 : Value) (bq : Box W q [.int .u8 (k : Int), .int .u16 (num : Int), .slice ra rn rc, .bool false, .bool bd]) (hqg : q ≠ g) (o : OwnRow B W g n c) (hs : SrcOf W va vn g)
    (hi : 0 ≤ iei ∧ iei ≤ 255) (hvn : vn ≤ 127) (hn : n ≤ 60000)
    (hQ : ∀ (g' n' c' : Nat) (W' : World) (u10 u11 u12 u13 u14 u15 u16 u17 u18 u19 u20 u21 u22 u23 u24 u25 u26 u27 u28 u29 u30 u31 u32 u33 u34 u35 u36 u37 u38 u39 u40 u41 u42 u43 u44 u45 u46 u47 u48 u49 u50 u51 u52 u53 u54 u55 u56 u57 u58 u59 u60 u61 u62 u63 u64 u65 u66 u67 u68 u69 u70 u71 u72 u73 u74 u75 u76 u77 u78 u79 u80 u81 u82 u83 u84 u85 u86 u87 u88 u89 u90 u91 u92 u93 u94 u95 u96 u97 u98 u99 u100 u101 u102 u103 u104 u105 u106 u107 u108 u109 u110 u111 u112 u113 u114 u115 u116 u117 u118 u119 u120 u121 u122 u123 u124 u125 u126 u127 u128 u129 u130 u131 u132 u133 u134 u135 : Value), OwnRow B W' g' n' c' → n ≤ n' → n' ≤ n + 130 → Kept (· = g) W W' → Q .normal ⟨List.toArray (.int .u8 (t : Int) :: .slice a L C :: c2 :: c3 :: c4 :: .slice (some ⟨g', 0, none⟩) n' c' :: .int .i64 (i : Int) :: .pointer (some ⟨q, 0, none⟩) :: .int .u8 iei :: .slice va vn vc :: u10 :: u11 :: u12 :: u13 :: u14 :: u15 :: u16 :: u17 :: u18 :: u19 :: u20 :: u21 :: u22 :: u23 :: u24 :: u25 :: u26 :: u27 :: u28 :: u29 :: u30 :: u31 :: u32 :: u33 :: u34 :: u35 :: u36 :: u37 :: u38 :: u39 :: u40 :: u41 :: u42 :: u43 :: u44 :: u45 :: u46 :: u47 :: u48 :: u49 :: u50 :: u51 :: u52 :: u53 :: u54 :: u55 :: u56 :: u57 :: u58 :: u59 :: u60 :: u61 :: u62 :: u63 :: u64 :: u65 :: u66 :: u67 :: u68 :: u69 :: u70 :: u71 :: u72 :: u73 :: u74 :: u75 :: u76 :: u77 :: u78 :: u79 :: u80 :: u81 :: u82 :: u83 :: u84 :: u85 :: u86 :: u87 :: u88 :: u89 :: u90 :: u91 :: u92 :: u93 :: u94 :: u95 :: u96 :: u97 :: u98 :: u99 :: u100 :: u101 :: u102 :: u103 :: u104 :: u105 :: u106 :: u107 :: u108 :: u109 :: u110 :: u111 :: u112 :: u113 :: u114 :: u115 :: u116 :: u117 :: u118 :: u119 :: u120 :: u121 :: u122 :: u123 :: u124 :: u125 :: u126 :: u127 :: u128 :: u129 :: u130 :: u131 :: u132 :: u133 :: u134 :: u135 :: []), []⟩ W') :
    Code.wp Ybaf.prog t37 Q ⟨List.toArray (.int .u8 (t : Int) :: .slice a L C :: c2 :: c3 :: c4 :: .slice (some ⟨g, 0, none⟩) n c :: .int .i64 (i : Int) :: .pointer (some ⟨q, 0, none⟩) :: .int .u8 iei :: .slice va vn vc :: c10 :: c11 :: c12 :: c13 :: c14 :: c15 :: c16 :: c17 :: c18 :: c19 :: c20 :: c21 :: c22 :: c23 :: c24 :: c25 :: c26 :: c27 :: c28 :: c29 :: c30 :: c31 :: c32 :: c33 :: c34 :: c35 :: c36 :: c37 :: c38 :: c39 :: c40 :: c41 :: c42 :: c43 :: c44 :: c45 :: c46 :: c47 :: c48 :: c49 :: c50 :: c51 :: c52 :: c53 :: c54 :: c55 :: c56 :: c57 :: c58 :: c59 :: c60 :: c61 :: c62 :: c63 :: c64 :: c65 :: c66 :: c67 :: c68 :: c69 :: c70 :: c71 :: c72 :: c73 :: c74 :: c75 :: c76 :: c77 :: c78 :: c79 :: c80 :: c81 :: c82 :: c83 :: c84 :: c85 :: c86 :: c87 :: c88 :: c89 :: c90 :: c91 :: c92 :: c93 :: c94 :: c95 :: c96 :: c97 :: c98 :: c99 :: c100 :: c101 :: c102 :: c103 :: c104 :: c105 :: c106 :: c107 :: c108 :: c109 :: c110 :: c111 :: c112 :: c113 :: c114 :: c115 :: c116 :: c117 :: c118 :: c119 :: c120 :: c121 :: c122 :: c123 :: c124 :: c125 :: c126 :: c127 :: c128 :: c129 :: c130 :: c131 :: c132 :: c133 :: c134 :: c135 :: []), []⟩ W := by
  have hqW := bq.lt
  have hgW := o.lt
  have kA : Kept (fun _ => False) W (W.alloc (.cells #[.int .u8 iei] 5)) := (Kept.refl _ _).alloc _
  have bA := Box.new W #[.int .u8 iei] 5
  have sA : SrcOf (W.alloc (.cells #[.int .u8 iei] 5)) (some ⟨W.heap.size, 0, none⟩) 1 g := .inr ⟨W.heap.size, 0, fun _ => iei, rfl, by omega, bA.lt, fun j hj => by
    obtain rfl : j = 0 := by omega
    exact ⟨bA.cell 0 _ rfl, hi⟩⟩
  obtain ⟨g1, c1', W1, hap1, o1, hg1, k1⟩ := own_append B _ g n c (some ⟨W.heap.size, 0, none⟩) 1 1 (o.kept kA id) sA (by omega)
  have kW1 : Kept (· = g) W W1 := (kA.mono fun _ _ h => h.elim).trans k1
  have hg1' : g1 = g ∨ W.heap.size ≤ g1 := by rcases hg1 with h | h; exact .inl h; rw [World.size_alloc] at h; exact .inr (by omega)
  have bq1 := bq.kept kW1 hqg
  have i3 := bq1.cell 3 _ rfl
  have s1 : SrcOf W1 va vn g1 := hs.kept kW1 (fun _ h => h) hg1'
  have kB : Kept (fun _ => False) W1 (W1.alloc (.cells #[.int .u8 (bits .or .u8 128 (vn : Int))] 5)) := (Kept.refl _ _).alloc _
  have bB := Box.new W1 #[.int .u8 (bits .or .u8 128 (vn : Int))] 5
  have hg1W := o1.lt
  have sB : SrcOf (W1.alloc (.cells #[.int .u8 (bits .or .u8 128 (vn : Int))] 5)) (some ⟨W1.heap.size, 0, none⟩) 1 g1 := .inr ⟨W1.heap.size, 0, fun _ => bits .or .u8 128 (vn : Int), rfl, by omega, bB.lt, fun j hj => by
    obtain rfl : j = 0 := by omega
    exact ⟨bB.cell 0 _ rfl, bits_u8 _ _ _⟩⟩
  obtain ⟨g2, c2', W2, hap2, o2, hg2, k2⟩ := own_append B _ g1 (n + 1) c1' (some ⟨W1.heap.size, 0, none⟩) 1 1 (o1.kept kB id) sB (by omega)
  have kS1 : Kept (fun x => x = g ∨ W.heap.size ≤ x) W W1 := kW1.mono fun _ _ h => .inl h
  have kW2 : Kept (fun x => x = g ∨ W.heap.size ≤ x) W W2 := kS1.trans ((kB.mono fun _ _ h => h.elim).trans (k2.mono fun x hx h => by have := kW1.size; omega))
  have hg2' : g2 = g1 ∨ W1.heap.size ≤ g2 := by rcases hg2 with h | h; exact .inl h; rw [World.size_alloc] at h; exact .inr (by omega)
  have s2 : SrcOf W2 va vn g2 := s1.kept ((kB.mono fun _ _ h => h.elim).trans k2) (fun _ h => h) hg2'
  obtain ⟨g3, c3', W3, hap3, o3, hg3, k3⟩ := own_append B W2 g2 _ c2' va vn vc o2 s2 (by omega)
  have kS3 : Kept (fun x => x = g ∨ W.heap.size ≤ x) W W3 := kW2.trans (k3.mono fun x hx h => by have := kW1.size; have := kB.size; omega)
  have kW3 : Kept (· = g) W W3 := kS3.mono fun x hx h => by omega
  clear hs s1 s2 sA sB o o1 o2 bq bq1 k1 k2 k3 kA kB kW1 kW2 kS1 kS3 bA bB hg1 hg2 hg3 hg1' hg2'
  conv => arg 2; whnf
  go_wp2_with (at_builtin; go_must (first | (refine Lib.wpList_append_run _ rfl _ _ 30 30 rfl _ _ rfl rfl _ _ hap1 ?_; clear hap1) | (refine Lib.wpList_append_run _ rfl _ _ 30 30 rfl _ _ rfl rfl _ _ hap2 ?_; clear hap2) | (refine Lib.wpList_append_run _ rfl _ _ 30 30 rfl _ _ rfl rfl _ _ hap3 ?_; clear hap3)))
  exact hQ _ _ _ _ _ _ _ _ _ _ _ _ _ _ _ _ _ _ _ _ _ _ _ _ _ _ _ _ _ _ _ _ _ _ _ _ _ _ _ _ _ _ _ _ _ _ _ _ _ _ _ _ _ _ _ _ _ _ _ _ _ _ _ _ _ _ _ _ _ _ _ _ _ _ _ _ _ _ _ _ _ _ _ _ _ _ _ _ _ _ _ _ _ _ _ _ _ _ _ _ _ _ _ _ _ _ _ _ _ _ _ _ _ _ _ _ _ _ _ _ _ _ _ _ _ _ _ _ _ _ o3 (by omega) (by omega) kW3

def cut3 (T : Code) : Code → Code
  | .seq a (.seq b (.seq c _)) => .seq a (.seq b (.seq c T))
  | _ => .skip


set_option maxRecDepth 100000 in
set_option maxHeartbeats 4000000 in
theorem c3_go (t : Nat) (a : Option Addr) (L C g n c i : Nat) (W : World) (Q : Exit → Act → World → Prop) (c2 c3 c4 c7 c8 c9 c10 c11 c12 c13 c14 c15 c16 c17 c18 c19 c20 c21 c22 c23 c24 c25 c26 c27 c28 c29 c30 c31 c32 c33 c34 c35 c36 c37 c38 c39 c40 c41 c42 c43 c44 c45 c46 c47 c48 c49 c50 c51 c52 c53 c54 c55 c56 c57 c58 c59 c60 c61 c62 c63 c64 c65 c66 c67 c68 c69 c70 c71 c72 c73 c74 c75 c76 c77 c78 c79 c80 c81 c82 c83 c84 c85 c86 c87 c88 c89 c90 c91 c92 c93 c94 c95 c96 c97 c98 c99 c100 c101 c102 c103 c104 c105 c106 c107 c108 c109 c110 c111 c112 c113 c114 c115 c116 c117 c118 c119 c120 c121 c122 c123 c124 c125 c126 c127 c128 c129 c130 c131 c132 c133 c134 c135 : Value) (h1 : i < L) (hQ : ∀ u7 u8 u9 u10 u11 u12 u13 u14 u15 u16 u17 u18 u19 u20 u21 u22 u23 u24 u25 u26 u27 u28 u29 u30 u31 u32 u33 u34 u35 u36 u37 u38 u39 u40 u41 u42 u43 u44 u45 u46 u47 u48 u49 u50 u51 u52 u53 u54 u55 u56 u57 u58 u59 u60 u61 u62 u63 u64 u65 u66 u67 u68 u69 u70 u71 u72 u73 u74 u75 u76 u77 u78 u79 u80 u81 u82 u83 u84 u85 u86 u87 u88 u89 u90 u91 u92 u93 u94 u95 u96 u97 u98 u99 u100 u101 u102 u103 u104 u105 u106 u107 u108 u109 u110 u111 u112 u113 u114 u115 u116 u117 u118 u119 u120 u121 u122 u123 u124 u125 u126 u127 u128 u129 u130 u131 u132 u133 u134 u135 : Value, Q .normal ⟨List.toArray (.int .u8 (t : Int) :: .slice a L C :: c2 :: c3 :: c4 :: .slice (some ⟨g, 0, none⟩) n c :: .int .i64 (i : Int) :: u7 :: u8 :: u9 :: u10 :: u11 :: u12 :: u13 :: u14 :: u15 :: u16 :: u17 :: u18 :: u19 :: u20 :: u21 :: u22 :: u23 :: u24 :: u25 :: u26 :: u27 :: u28 :: u29 :: u30 :: u31 :: u32 :: u33 :: u34 :: u35 :: u36 :: u37 :: u38 :: u39 :: u40 :: u41 :: u42 :: u43 :: u44 :: u45 :: u46 :: u47 :: u48 :: u49 :: u50 :: u51 :: u52 :: u53 :: u54 :: u55 :: u56 :: u57 :: u58 :: u59 :: u60 :: u61 :: u62 :: u63 :: u64 :: u65 :: u66 :: u67 :: u68 :: u69 :: u70 :: u71 :: u72 :: u73 :: u74 :: u75 :: u76 :: u77 :: u78 :: u79 :: u80 :: u81 :: u82 :: u83 :: u84 :: u85 :: u86 :: u87 :: u88 :: u89 :: u90 :: u91 :: u92 :: u93 :: u94 :: u95 :: u96 :: u97 :: u98 :: u99 :: u100 :: u101 :: u102 :: u103 :: u104 :: u105 :: u106 :: u107 :: u108 :: u109 :: u110 :: u111 :: u112 :: u113 :: u114 :: u115 :: u116 :: u117 :: u118 :: u119 :: u120 :: u121 :: u122 :: u123 :: u124 :: u125 :: u126 :: u127 :: u128 :: u129 :: u130 :: u131 :: u132 :: u133 :: u134 :: u135 :: []), []⟩ W) : Code.wp Ybaf.prog (hd7 body7) Q ⟨List.toArray (.int .u8 (t : Int) :: .slice a L C :: c2 :: c3 :: c4 :: .slice (some ⟨g, 0, none⟩) n c :: .int .i64 (i : Int) :: c7 :: c8 :: c9 :: c10 :: c11 :: c12 :: c13 :: c14 :: c15 :: c16 :: c17 :: c18 :: c19 :: c20 :: c21 :: c22 :: c23 :: c24 :: c25 :: c26 :: c27 :: c28 :: c29 :: c30 :: c31 :: c32 :: c33 :: c34 :: c35 :: c36 :: c37 :: c38 :: c39 :: c40 :: c41 :: c42 :: c43 :: c44 :: c45 :: c46 :: c47 :: c48 :: c49 :: c50 :: c51 :: c52 :: c53 :: c54 :: c55 :: c56 :: c57 :: c58 :: c59 :: c60 :: c61 :: c62 :: c63 :: c64 :: c65 :: c66 :: c67 :: c68 :: c69 :: c70 :: c71 :: c72 :: c73 :: c74 :: c75 :: c76 :: c77 :: c78 :: c79 :: c80 :: c81 :: c82 :: c83 :: c84 :: c85 :: c86 :: c87 :: c88 :: c89 :: c90 :: c91 :: c92 :: c93 :: c94 :: c95 :: c96 :: c97 :: c98 :: c99 :: c100 :: c101 :: c102 :: c103 :: c104 :: c105 :: c106 :: c107 :: c108 :: c109 :: c110 :: c111 :: c112 :: c113 :: c114 :: c115 :: c116 :: c117 :: c118 :: c119 :: c120 :: c121 :: c122 :: c123 :: c124 :: c125 :: c126 :: c127 :: c128 :: c129 :: c130 :: c131 :: c132 :: c133 :: c134 :: c135 :: []), []⟩ W := by
  conv => arg 2; whnf
  go_wp2_with fail
  first | done | exact hQ _ _ _ _ _ _ _ _ _ _ _ _ _ _ _ _ _ _ _ _ _ _ _ _ _ _ _ _ _ _ _ _ _ _ _ _ _ _ _ _ _ _ _ _ _ _ _ _ _ _ _ _ _ _ _ _ _ _ _ _ _ _ _ _ _ _ _ _ _ _ _ _ _ _ _ _ _ _ _ _ _ _ _ _ _ _ _ _ _ _ _ _ _ _ _ _ _ _ _ _ _ _ _ _ _ _ _ _ _ _ _ _ _ _ _ _ _ _ _ _ _ _ _ _ _ _ _ _ _

set_option maxRecDepth 100000 in
set_option maxHeartbeats 4000000 in
theorem c3_end (t : Nat) (a : Option Addr) (L C g n c i : Nat) (W : World) (Q : Exit → Act → World → Prop) (c2 c3 c4 c7 c8 c9 c10 c11 c12 c13 c14 c15 c16 c17 c18 c19 c20 c21 c22 c23 c24 c25 c26 c27 c28 c29 c30 c31 c32 c33 c34 c35 c36 c37 c38 c39 c40 c41 c42 c43 c44 c45 c46 c47 c48 c49 c50 c51 c52 c53 c54 c55 c56 c57 c58 c59 c60 c61 c62 c63 c64 c65 c66 c67 c68 c69 c70 c71 c72 c73 c74 c75 c76 c77 c78 c79 c80 c81 c82 c83 c84 c85 c86 c87 c88 c89 c90 c91 c92 c93 c94 c95 c96 c97 c98 c99 c100 c101 c102 c103 c104 c105 c106 c107 c108 c109 c110 c111 c112 c113 c114 c115 c116 c117 c118 c119 c120 c121 c122 c123 c124 c125 c126 c127 c128 c129 c130 c131 c132 c133 c134 c135 : Value) (h1 : L ≤ i) (hQ : ∀ u7 u8 u9 u10 u11 u12 u13 u14 u15 u16 u17 u18 u19 u20 u21 u22 u23 u24 u25 u26 u27 u28 u29 u30 u31 u32 u33 u34 u35 u36 u37 u38 u39 u40 u41 u42 u43 u44 u45 u46 u47 u48 u49 u50 u51 u52 u53 u54 u55 u56 u57 u58 u59 u60 u61 u62 u63 u64 u65 u66 u67 u68 u69 u70 u71 u72 u73 u74 u75 u76 u77 u78 u79 u80 u81 u82 u83 u84 u85 u86 u87 u88 u89 u90 u91 u92 u93 u94 u95 u96 u97 u98 u99 u100 u101 u102 u103 u104 u105 u106 u107 u108 u109 u110 u111 u112 u113 u114 u115 u116 u117 u118 u119 u120 u121 u122 u123 u124 u125 u126 u127 u128 u129 u130 u131 u132 u133 u134 u135 : Value, Q (.exit 0) ⟨List.toArray (.int .u8 (t : Int) :: .slice a L C :: c2 :: c3 :: c4 :: .slice (some ⟨g, 0, none⟩) n c :: .int .i64 (i : Int) :: u7 :: u8 :: u9 :: u10 :: u11 :: u12 :: u13 :: u14 :: u15 :: u16 :: u17 :: u18 :: u19 :: u20 :: u21 :: u22 :: u23 :: u24 :: u25 :: u26 :: u27 :: u28 :: u29 :: u30 :: u31 :: u32 :: u33 :: u34 :: u35 :: u36 :: u37 :: u38 :: u39 :: u40 :: u41 :: u42 :: u43 :: u44 :: u45 :: u46 :: u47 :: u48 :: u49 :: u50 :: u51 :: u52 :: u53 :: u54 :: u55 :: u56 :: u57 :: u58 :: u59 :: u60 :: u61 :: u62 :: u63 :: u64 :: u65 :: u66 :: u67 :: u68 :: u69 :: u70 :: u71 :: u72 :: u73 :: u74 :: u75 :: u76 :: u77 :: u78 :: u79 :: u80 :: u81 :: u82 :: u83 :: u84 :: u85 :: u86 :: u87 :: u88 :: u89 :: u90 :: u91 :: u92 :: u93 :: u94 :: u95 :: u96 :: u97 :: u98 :: u99 :: u100 :: u101 :: u102 :: u103 :: u104 :: u105 :: u106 :: u107 :: u108 :: u109 :: u110 :: u111 :: u112 :: u113 :: u114 :: u115 :: u116 :: u117 :: u118 :: u119 :: u120 :: u121 :: u122 :: u123 :: u124 :: u125 :: u126 :: u127 :: u128 :: u129 :: u130 :: u131 :: u132 :: u133 :: u134 :: u135 :: []), []⟩ W) : Code.wp Ybaf.prog (hd7 body7) Q ⟨List.toArray (.int .u8 (t : Int) :: .slice a L C :: c2 :: c3 :: c4 :: .slice (some ⟨g, 0, none⟩) n c :: .int .i64 (i : Int) :: c7 :: c8 :: c9 :: c10 :: c11 :: c12 :: c13 :: c14 :: c15 :: c16 :: c17 :: c18 :: c19 :: c20 :: c21 :: c22 :: c23 :: c24 :: c25 :: c26 :: c27 :: c28 :: c29 :: c30 :: c31 :: c32 :: c33 :: c34 :: c35 :: c36 :: c37 :: c38 :: c39 :: c40 :: c41 :: c42 :: c43 :: c44 :: c45 :: c46 :: c47 :: c48 :: c49 :: c50 :: c51 :: c52 :: c53 :: c54 :: c55 :: c56 :: c57 :: c58 :: c59 :: c60 :: c61 :: c62 :: c63 :: c64 :: c65 :: c66 :: c67 :: c68 :: c69 :: c70 :: c71 :: c72 :: c73 :: c74 :: c75 :: c76 :: c77 :: c78 :: c79 :: c80 :: c81 :: c82 :: c83 :: c84 :: c85 :: c86 :: c87 :: c88 :: c89 :: c90 :: c91 :: c92 :: c93 :: c94 :: c95 :: c96 :: c97 :: c98 :: c99 :: c100 :: c101 :: c102 :: c103 :: c104 :: c105 :: c106 :: c107 :: c108 :: c109 :: c110 :: c111 :: c112 :: c113 :: c114 :: c115 :: c116 :: c117 :: c118 :: c119 :: c120 :: c121 :: c122 :: c123 :: c124 :: c125 :: c126 :: c127 :: c128 :: c129 :: c130 :: c131 :: c132 :: c133 :: c134 :: c135 :: []), []⟩ W := by
  conv => arg 2; whnf
  go_wp2_with fail
  first | done | exact hQ _ _ _ _ _ _ _ _ _ _ _ _ _ _ _ _ _ _ _ _ _ _ _ _ _ _ _ _ _ _ _ _ _ _ _ _ _ _ _ _ _ _ _ _ _ _ _ _ _ _ _ _ _ _ _ _ _ _ _ _ _ _ _ _ _ _ _ _ _ _ _ _ _ _ _ _ _ _ _ _ _ _ _ _ _ _ _ _ _ _ _ _ _ _ _ _ _ _ _ _ _ _ _ _ _ _ _ _ _ _ _ _ _ _ _ _ _ _ _ _ _ _ _ _ _ _ _ _ _

set_option maxRecDepth 100000 in
set_option maxHeartbeats 4000000 in
theorem r4_runs (t : Nat) (a : Option Addr) (L C g n c i : Nat) (W : World) (Q : Exit → Act → World → Prop) (c2 c3 c4 c7 c8 c9 c10 c11 c12 c13 c14 c15 c16 c17 c18 c19 c20 c21 c22 c23 c24 c25 c26 c27 c28 c29 c30 c31 c32 c33 c34 c35 c36 c37 c38 c39 c40 c41 c42 c43 c44 c45 c46 c47 c48 c49 c50 c51 c52 c53 c54 c55 c56 c57 c58 c59 c60 c61 c62 c63 c64 c65 c66 c67 c68 c69 c70 c71 c72 c73 c74 c75 c76 c77 c78 c79 c80 c81 c82 c83 c84 c85 c86 c87 c88 c89 c90 c91 c92 c93 c94 c95 c96 c97 c98 c99 c100 c101 c102 c103 c104 c105 c106 c107 c108 c109 c110 c111 c112 c113 c114 c115 c116 c117 c118 c119 c120 c121 c122 c123 c124 c125 c126 c127 c128 c129 c130 c131 c132 c133 c134 c135 : Value) (h1 : i < 300) (hQ : ∀ u7 u8 u9 u10 u11 u12 u13 u14 u15 u16 u17 u18 u19 u20 u21 u22 u23 u24 u25 u26 u27 u28 u29 u30 u31 u32 u33 u34 u35 u36 u37 u38 u39 u40 u41 u42 u43 u44 u45 u46 u47 u48 u49 u50 u51 u52 u53 u54 u55 u56 u57 u58 u59 u60 u61 u62 u63 u64 u65 u66 u67 u68 u69 u70 u71 u72 u73 u74 u75 u76 u77 u78 u79 u80 u81 u82 u83 u84 u85 u86 u87 u88 u89 u90 u91 u92 u93 u94 u95 u96 u97 u98 u99 u100 u101 u102 u103 u104 u105 u106 u107 u108 u109 u110 u111 u112 u113 u114 u115 u116 u117 u118 u119 u120 u121 u122 u123 u124 u125 u126 u127 u128 u129 u130 u131 u132 u133 u134 u135 : Value, Q .normal ⟨List.toArray (.int .u8 (t : Int) :: .slice a L C :: c2 :: c3 :: c4 :: .slice (some ⟨g, 0, none⟩) n c :: .int .i64 ((i + 1 : Nat) : Int) :: u7 :: u8 :: u9 :: u10 :: u11 :: u12 :: u13 :: u14 :: u15 :: u16 :: u17 :: u18 :: u19 :: u20 :: u21 :: u22 :: u23 :: u24 :: u25 :: u26 :: u27 :: u28 :: u29 :: u30 :: u31 :: u32 :: u33 :: u34 :: u35 :: u36 :: u37 :: u38 :: u39 :: u40 :: u41 :: u42 :: u43 :: u44 :: u45 :: u46 :: u47 :: u48 :: u49 :: u50 :: u51 :: u52 :: u53 :: u54 :: u55 :: u56 :: u57 :: u58 :: u59 :: u60 :: u61 :: u62 :: u63 :: u64 :: u65 :: u66 :: u67 :: u68 :: u69 :: u70 :: u71 :: u72 :: u73 :: u74 :: u75 :: u76 :: u77 :: u78 :: u79 :: u80 :: u81 :: u82 :: u83 :: u84 :: u85 :: u86 :: u87 :: u88 :: u89 :: u90 :: u91 :: u92 :: u93 :: u94 :: u95 :: u96 :: u97 :: u98 :: u99 :: u100 :: u101 :: u102 :: u103 :: u104 :: u105 :: u106 :: u107 :: u108 :: u109 :: u110 :: u111 :: u112 :: u113 :: u114 :: u115 :: u116 :: u117 :: u118 :: u119 :: u120 :: u121 :: u122 :: u123 :: u124 :: u125 :: u126 :: u127 :: u128 :: u129 :: u130 :: u131 :: u132 :: u133 :: u134 :: u135 :: []), []⟩ W) : Code.wp Ybaf.prog r4 Q ⟨List.toArray (.int .u8 (t : Int) :: .slice a L C :: c2 :: c3 :: c4 :: .slice (some ⟨g, 0, none⟩) n c :: .int .i64 (i : Int) :: c7 :: c8 :: c9 :: c10 :: c11 :: c12 :: c13 :: c14 :: c15 :: c16 :: c17 :: c18 :: c19 :: c20 :: c21 :: c22 :: c23 :: c24 :: c25 :: c26 :: c27 :: c28 :: c29 :: c30 :: c31 :: c32 :: c33 :: c34 :: c35 :: c36 :: c37 :: c38 :: c39 :: c40 :: c41 :: c42 :: c43 :: c44 :: c45 :: c46 :: c47 :: c48 :: c49 :: c50 :: c51 :: c52 :: c53 :: c54 :: c55 :: c56 :: c57 :: c58 :: c59 :: c60 :: c61 :: c62 :: c63 :: c64 :: c65 :: c66 :: c67 :: c68 :: c69 :: c70 :: c71 :: c72 :: c73 :: c74 :: c75 :: c76 :: c77 :: c78 :: c79 :: c80 :: c81 :: c82 :: c83 :: c84 :: c85 :: c86 :: c87 :: c88 :: c89 :: c90 :: c91 :: c92 :: c93 :: c94 :: c95 :: c96 :: c97 :: c98 :: c99 :: c100 :: c101 :: c102 :: c103 :: c104 :: c105 :: c106 :: c107 :: c108 :: c109 :: c110 :: c111 :: c112 :: c113 :: c114 :: c115 :: c116 :: c117 :: c118 :: c119 :: c120 :: c121 :: c122 :: c123 :: c124 :: c125 :: c126 :: c127 :: c128 :: c129 :: c130 :: c131 :: c132 :: c133 :: c134 :: c135 :: []), []⟩ W := by
  have e2 : ((i + 1 : Nat) : Int) = (i : Int) + 1 := by omega
  rw [e2] at hQ
  clear e2
  conv => arg 2; whnf
  go_wp2_with fail
  first | done | exact hQ _ _ _ _ _ _ _ _ _ _ _ _ _ _ _ _ _ _ _ _ _ _ _ _ _ _ _ _ _ _ _ _ _ _ _ _ _ _ _ _ _ _ _ _ _ _ _ _ _ _ _ _ _ _ _ _ _ _ _ _ _ _ _ _ _ _ _ _ _ _ _ _ _ _ _ _ _ _ _ _ _ _ _ _ _ _ _ _ _ _ _ _ _ _ _ _ _ _ _ _ _ _ _ _ _ _ _ _ _ _ _ _ _ _ _ _ _ _ _ _ _ _ _ _ _ _ _ _ _

set_option maxRecDepth 100000 in
set_option maxHeartbeats 4000000 in
theorem head7 (t : Nat) (L C g n c i : Nat) (W : World) (Q : Exit → Act → World → Prop) (T : Code) (b ob k num rn rc : Nat) (ra : Option Addr) (lg bd : Bool) (c2 c3 c4 c7 c8 c9 c10 c11 c12 c13 c14 c15 c16 c17 c18 c19 c20 c21 c22 c23 c24 c25 c26 c27 c28 c29 c30 c31 c32 c33 c34 c35 c36 c37 c38 c39 c40 c41 c42 c43 c44 c45 c46 c47 c48 c49 c50 c51 c52 c53 c54 c55 c56 c57 c58 c59 c60 c61 c62 c63 c64 c65 c66 c67 c68 c69 c70 c71 c72 c73 c74 c75 c76 c77 c78 c79 c80 c81 c82 c83 c84 c85 c86 c87 c88 c89 c90 c91 c92 c93 c94 c95 c96 c97 c98 c99 c100 c101 c102 c103 c104 c105 c106 c107 c108 c109 c110 c111 c112 c113 c114 c115 c116 c117 c118 c119 c120 c121 c122 c123 c124 c125 c126 c127 c128 c129 c130 c131 c132 c133 c134 c135 : Value) (h1 : i < L)
    (x0 : W.cell? ⟨b, ob + i * 5, none⟩ = some (.int .u8 (k : Int))) (x1 : W.cell? ⟨b, ob + i * 5 + 1, none⟩ = some (.int .u16 (num : Int))) (x2 : W.cell? ⟨b, ob + i * 5 + 2, none⟩ = some (.slice ra rn rc)) (x3 : W.cell? ⟨b, ob + i * 5 + 3, none⟩ = some (.bool lg)) (x4 : W.cell? ⟨b, ob + i * 5 + 4, none⟩ = some (.bool bd))
    (hT : ∀ u10 u11 u12 u13 u14 u15 u16 u17 u18 u19 u20 u21 u22 u23 u24 u25 u26 u27 u28 u29 u30 u31 u32 u33 u34 u35 u36 u37 u38 u39 u40 u41 u42 u43 u44 u45 u46 u47 u48 u49 u50 u51 u52 u53 u54 u55 u56 u57 u58 u59 u60 u61 u62 u63 u64 u65 u66 u67 u68 u69 u70 u71 u72 u73 u74 u75 u76 u77 u78 u79 u80 u81 u82 u83 u84 u85 u86 u87 u88 u89 u90 u91 u92 u93 u94 u95 u96 u97 u98 u99 u100 u101 u102 u103 u104 u105 u106 u107 u108 u109 u110 u111 u112 u113 u114 u115 u116 u117 u118 u119 u120 u121 u122 u123 u124 u125 u126 u127 u128 u129 u130 u131 u132 u133 u134 u135 : Value, Code.wp Ybaf.prog T Q ⟨List.toArray (.int .u8 (t : Int) :: .slice (some ⟨b, ob, none⟩) L C :: c2 :: c3 :: c4 :: .slice (some ⟨g, 0, none⟩) n c :: .int .i64 (i : Int) :: .pointer (some ⟨W.heap.size, 0, none⟩) :: .int .u8 0 :: .slice none 0 0 :: u10 :: u11 :: u12 :: u13 :: u14 :: u15 :: u16 :: u17 :: u18 :: u19 :: u20 :: u21 :: u22 :: u23 :: u24 :: u25 :: u26 :: u27 :: u28 :: u29 :: u30 :: u31 :: u32 :: u33 :: u34 :: u35 :: u36 :: u37 :: u38 :: u39 :: u40 :: u41 :: u42 :: u43 :: u44 :: u45 :: u46 :: u47 :: u48 :: u49 :: u50 :: u51 :: u52 :: u53 :: u54 :: u55 :: u56 :: u57 :: u58 :: u59 :: u60 :: u61 :: u62 :: u63 :: u64 :: u65 :: u66 :: u67 :: u68 :: u69 :: u70 :: u71 :: u72 :: u73 :: u74 :: u75 :: u76 :: u77 :: u78 :: u79 :: u80 :: u81 :: u82 :: u83 :: u84 :: u85 :: u86 :: u87 :: u88 :: u89 :: u90 :: u91 :: u92 :: u93 :: u94 :: u95 :: u96 :: u97 :: u98 :: u99 :: u100 :: u101 :: u102 :: u103 :: u104 :: u105 :: u106 :: u107 :: u108 :: u109 :: u110 :: u111 :: u112 :: u113 :: u114 :: u115 :: u116 :: u117 :: u118 :: u119 :: u120 :: u121 :: u122 :: u123 :: u124 :: u125 :: u126 :: u127 :: u128 :: u129 :: u130 :: u131 :: u132 :: u133 :: u134 :: u135 :: []), []⟩ (W.alloc (.cells #[.int .u8 (k : Int), .int .u16 (num : Int), .slice ra rn rc, .bool lg, .bool bd] 57))) : Code.wp Ybaf.prog (cut3 T in7) Q ⟨List.toArray (.int .u8 (t : Int) :: .slice (some ⟨b, ob, none⟩) L C :: c2 :: c3 :: c4 :: .slice (some ⟨g, 0, none⟩) n c :: .int .i64 (i : Int) :: c7 :: c8 :: c9 :: c10 :: c11 :: c12 :: c13 :: c14 :: c15 :: c16 :: c17 :: c18 :: c19 :: c20 :: c21 :: c22 :: c23 :: c24 :: c25 :: c26 :: c27 :: c28 :: c29 :: c30 :: c31 :: c32 :: c33 :: c34 :: c35 :: c36 :: c37 :: c38 :: c39 :: c40 :: c41 :: c42 :: c43 :: c44 :: c45 :: c46 :: c47 :: c48 :: c49 :: c50 :: c51 :: c52 :: c53 :: c54 :: c55 :: c56 :: c57 :: c58 :: c59 :: c60 :: c61 :: c62 :: c63 :: c64 :: c65 :: c66 :: c67 :: c68 :: c69 :: c70 :: c71 :: c72 :: c73 :: c74 :: c75 :: c76 :: c77 :: c78 :: c79 :: c80 :: c81 :: c82 :: c83 :: c84 :: c85 :: c86 :: c87 :: c88 :: c89 :: c90 :: c91 :: c92 :: c93 :: c94 :: c95 :: c96 :: c97 :: c98 :: c99 :: c100 :: c101 :: c102 :: c103 :: c104 :: c105 :: c106 :: c107 :: c108 :: c109 :: c110 :: c111 :: c112 :: c113 :: c114 :: c115 :: c116 :: c117 :: c118 :: c119 :: c120 :: c121 :: c122 :: c123 :: c124 :: c125 :: c126 :: c127 :: c128 :: c129 :: c130 :: c131 :: c132 :: c133 :: c134 :: c135 :: []), []⟩ W := by
  conv => arg 2; whnf
  go_wp2_with fail
  first | done | exact hT _ _ _ _ _ _ _ _ _ _ _ _ _ _ _ _ _ _ _ _ _ _ _ _ _ _ _ _ _ _ _ _ _ _ _ _ _ _ _ _ _ _ _ _ _ _ _ _ _ _ _ _ _ _ _ _ _ _ _ _ _ _ _ _ _ _ _ _ _ _ _ _ _ _ _ _ _ _ _ _ _ _ _ _ _ _ _ _ _ _ _ _ _ _ _ _ _ _ _ _ _ _ _ _ _ _ _ _ _ _ _ _ _ _ _ _ _ _ _ _ _ _ _ _ _ _
end Go.Proofs.YbulkcupaFmt
