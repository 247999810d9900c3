/- By an AI agent. No person has read it.
   zzs4810bmodel (function 11): its round, in parts. -/
import Derived.Test.YbulkcupaFmtScan
import Derived.Test.YbulkcupaFmtZsay
import Derived.BigRegion
namespace Go.Proofs.YbulkcupaFmt
open Go.RowKit Go.Extern.Stop Go.Stop Go.Extern

/-- The first loop's body. -/
def loopOf : Code → Option Code
  | .loop c => some c
  | .seq a b => match loopOf a with
    | some c => some c
    | none => loopOf b
  | .block _ c => loopOf c
  | .scope c => loopOf c
  | .cond _ a b => match loopOf a with
    | some c => some c
    | none => loopOf b
  | _ => none
def innerOf : Code → Code
  | .seq _ (.block _ c) => c
  | _ => .skip
def hdOf : Code → Code
  | .seq a _ => a
  | _ => .skip
def tlOf : Code → Code
  | .seq _ b => b
  | _ => .skip
def cut5 (T : Code) : Code → Code
  | .seq a (.seq b (.seq c (.seq d (.seq e _)))) => .seq a (.seq b (.seq c (.seq d (.seq e T))))
  | _ => .skip

noncomputable def body11 : Code := ((Ybaf.f11.body.bind loopOf).getD .skip)
noncomputable def in11 : Code := innerOf body11
noncomputable def t18 : Code := tlOf (tlOf (tlOf (tlOf (tlOf in11))))
noncomputable def s18 : Code := hdOf t18
noncomputable def s20 : Code := hdOf (tlOf t18)
noncomputable def t33 : Code := tlOf (tlOf t18)

/-- A return with nothing. -/
def Fails (r o : Nat) (Q : Exit → Act → World → Prop) (W : World) : Prop :=
  ∀ (a : Act) (W' : World), a.tmps[2]?.getD undef = .pointer (some ⟨r, 0, none⟩) → a.tmps[3]?.getD undef = .bool false → a.tmps[4]?.getD undef = .int .i64 (o : Int) → a.defers = [] → Kept (· = r) W W' → Box W' r St.zero.cells → Q .ret a W'
/-- A return with what has been read. -/
def Dones (r : Nat) (s : St) (Q : Exit → Act → World → Prop) (W : World) : Prop :=
  ∀ (a : Act) (W' : World), a.tmps[2]?.getD undef = .pointer (some ⟨r, 0, none⟩) → a.tmps[3]?.getD undef = .bool true → a.tmps[4]?.getD undef = .int .i64 0 → a.defers = [] → Kept (· = r) W W' → Box W' r s.cells → Q .ret a W'


set_option maxRecDepth 100000 in
set_option maxHeartbeats 4000000 in
theorem head_none (g n cap r v off : Nat) (R : Nat → Nat) (s : St) (W : World) (Q : Exit → Act → World → Prop) (T : Code) (c1 c9 c10 c11 c12 c13 c14 c15 c16 c17 c18 c19 c20 c21 c22 c23 c24 c25 c26 c27 c28 c29 c30 c31 c32 c33 c34 c35 c36 c37 c38 c39 c40 c41 c42 c43 c44 c45 c46 c47 c48 c49 c50 c51 c52 c53 c54 c55 c56 c57 c58 c59 c60 c61 c62 c63 c64 c65 c66 c67 c68 c69 c70 c71 c72 c73 c74 c75 c76 c77 c78 c79 c80 c81 c82 c83 c84 c85 c86 c87 c88 c89 c90 c91 c92 c93 c94 c95 c96 c97 c98 c99 c100 c101 c102 c103 c104 c105 c106 c107 c108 c109 c110 c111 c112 c113 c114 c115 c116 c117 c118 c119 c120 c121 c122 c123 c124 c125 c126 c127 c128 c129 c130 c131 c132 c133 c134 c135 c136 c137 c138 : Value) (hp : Pdu W g n R) (b1 : Box W r St.zero.cells) (h1 : off < n) (h2 : n ≤ off + 1) (hQ : Fails r (off + 1) Q W) :
    Code.wp Ybaf.prog (cut5 T in11) Q ⟨List.toArray (.slice (some ⟨g, 0, none⟩) n cap :: c1 :: .pointer (some ⟨r, 0, none⟩) :: .bool false :: .int .i64 0 :: .pointer (some ⟨v, 0, none⟩) :: .bool s.hb :: .int .i64 (off : Int) :: .int .i64 (n : Int) :: c9 :: c10 :: c11 :: c12 :: c13 :: c14 :: c15 :: c16 :: c17 :: c18 :: c19 :: c20 :: c21 :: c22 :: c23 :: c24 :: c25 :: c26 :: c27 :: c28 :: c29 :: c30 :: c31 :: c32 :: c33 :: c34 :: c35 :: c36 :: c37 :: c38 :: c39 :: c40 :: c41 :: c42 :: c43 :: c44 :: c45 :: c46 :: c47 :: c48 :: c49 :: c50 :: c51 :: c52 :: c53 :: c54 :: c55 :: c56 :: c57 :: c58 :: c59 :: c60 :: c61 :: c62 :: c63 :: c64 :: c65 :: c66 :: c67 :: c68 :: c69 :: c70 :: c71 :: c72 :: c73 :: c74 :: c75 :: c76 :: c77 :: c78 :: c79 :: c80 :: c81 :: c82 :: c83 :: c84 :: c85 :: c86 :: c87 :: c88 :: c89 :: c90 :: c91 :: c92 :: c93 :: c94 :: c95 :: c96 :: c97 :: c98 :: c99 :: c100 :: c101 :: c102 :: c103 :: c104 :: c105 :: c106 :: c107 :: c108 :: c109 :: c110 :: c111 :: c112 :: c113 :: c114 :: c115 :: c116 :: c117 :: c118 :: c119 :: c120 :: c121 :: c122 :: c123 :: c124 :: c125 :: c126 :: c127 :: c128 :: c129 :: c130 :: c131 :: c132 :: c133 :: c134 :: c135 :: c136 :: c137 :: c138 :: []), []⟩ W := by
  have hl := hp.len
  have x0 := hp.cell off h1
  have u0 := b1.cell 0 _ rfl
  have u1 := b1.cell 1 _ rfl
  have u2 := b1.cell 2 _ rfl
  have u3 := b1.cell 3 _ rfl
  have u4 := b1.cell 4 _ rfl
  have u5 := b1.cell 5 _ rfl
  have u6 := b1.cell 6 _ rfl
  have uf := b1.frz
  simp only [St.zero, Cl.zero] at u0 u1 u2 u3 u4 u5 u6
  have e1 := b1.set St.zero.cells rfl
  have kE := Kept.setCells (S := (· = r)) r St.zero.cells 0 (Kept.refl _ W) (.inl rfl)
  clear hp b1
  conv => arg 2; whnf
  go_wp2_with fail
  exact hQ _ _ rfl rfl rfl rfl kE e1

set_option maxRecDepth 100000 in
set_option maxHeartbeats 4000000 in
theorem head_short (g n cap r v off : Nat) (R : Nat → Nat) (s : St) (W : World) (Q : Exit → Act → World → Prop) (T : Code) (c1 c9 c10 c11 c12 c13 c14 c15 c16 c17 c18 c19 c20 c21 c22 c23 c24 c25 c26 c27 c28 c29 c30 c31 c32 c33 c34 c35 c36 c37 c38 c39 c40 c41 c42 c43 c44 c45 c46 c47 c48 c49 c50 c51 c52 c53 c54 c55 c56 c57 c58 c59 c60 c61 c62 c63 c64 c65 c66 c67 c68 c69 c70 c71 c72 c73 c74 c75 c76 c77 c78 c79 c80 c81 c82 c83 c84 c85 c86 c87 c88 c89 c90 c91 c92 c93 c94 c95 c96 c97 c98 c99 c100 c101 c102 c103 c104 c105 c106 c107 c108 c109 c110 c111 c112 c113 c114 c115 c116 c117 c118 c119 c120 c121 c122 c123 c124 c125 c126 c127 c128 c129 c130 c131 c132 c133 c134 c135 c136 c137 c138 : Value) (hp : Pdu W g n R) (h1 : off < n) (h2 : off + 1 < n) (h3 : 128 ≤ R (off + 1)) (hT : ∀ u12 u13 u14 u15 u16 u17 u18 u19 u20 u21 u22 u23 u24 u25 u26 u27 u28 u29 u30 u31 u32 u33 u34 u35 u36 u37 u38 u39 u40 u41 u42 u43 u44 u45 u46 u47 u48 u49 u50 u51 u52 u53 u54 u55 u56 u57 u58 u59 u60 u61 u62 u63 u64 u65 u66 u67 u68 u69 u70 u71 u72 u73 u74 u75 u76 u77 u78 u79 u80 u81 u82 u83 u84 u85 u86 u87 u88 u89 u90 u91 u92 u93 u94 u95 u96 u97 u98 u99 u100 u101 u102 u103 u104 u105 u106 u107 u108 u109 u110 u111 u112 u113 u114 u115 u116 u117 u118 u119 u120 u121 u122 u123 u124 u125 u126 u127 u128 u129 u130 u131 u132 u133 u134 u135 u136 u137 u138 : Value, Code.wp Ybaf.prog T Q ⟨List.toArray (.slice (some ⟨g, 0, none⟩) n cap :: c1 :: .pointer (some ⟨r, 0, none⟩) :: .bool false :: .int .i64 0 :: .pointer (some ⟨v, 0, none⟩) :: .bool s.hb :: .int .i64 (off : Int) :: .int .i64 (n : Int) :: .int .u8 (R off : Int) :: .int .i64 ((off + 2 : Nat) : Int) :: .int .i64 ((R (off + 1) - 128 : Nat) : Int) :: u12 :: u13 :: u14 :: u15 :: u16 :: u17 :: u18 :: u19 :: u20 :: u21 :: u22 :: u23 :: u24 :: u25 :: u26 :: u27 :: u28 :: u29 :: u30 :: u31 :: u32 :: u33 :: u34 :: u35 :: u36 :: u37 :: u38 :: u39 :: u40 :: u41 :: u42 :: u43 :: u44 :: u45 :: u46 :: u47 :: u48 :: u49 :: u50 :: u51 :: u52 :: u53 :: u54 :: u55 :: u56 :: u57 :: u58 :: u59 :: u60 :: u61 :: u62 :: u63 :: u64 :: u65 :: u66 :: u67 :: u68 :: u69 :: u70 :: u71 :: u72 :: u73 :: u74 :: u75 :: u76 :: u77 :: u78 :: u79 :: u80 :: u81 :: u82 :: u83 :: u84 :: u85 :: u86 :: u87 :: u88 :: u89 :: u90 :: u91 :: u92 :: u93 :: u94 :: u95 :: u96 :: u97 :: u98 :: u99 :: u100 :: u101 :: u102 :: u103 :: u104 :: u105 :: u106 :: u107 :: u108 :: u109 :: u110 :: u111 :: u112 :: u113 :: u114 :: u115 :: u116 :: u117 :: u118 :: u119 :: u120 :: u121 :: u122 :: u123 :: u124 :: u125 :: u126 :: u127 :: u128 :: u129 :: u130 :: u131 :: u132 :: u133 :: u134 :: u135 :: u136 :: u137 :: u138 :: []), []⟩ W) :
    Code.wp Ybaf.prog (cut5 T in11) Q ⟨List.toArray (.slice (some ⟨g, 0, none⟩) n cap :: c1 :: .pointer (some ⟨r, 0, none⟩) :: .bool false :: .int .i64 0 :: .pointer (some ⟨v, 0, none⟩) :: .bool s.hb :: .int .i64 (off : Int) :: .int .i64 (n : Int) :: c9 :: c10 :: c11 :: c12 :: c13 :: c14 :: c15 :: c16 :: c17 :: c18 :: c19 :: c20 :: c21 :: c22 :: c23 :: c24 :: c25 :: c26 :: c27 :: c28 :: c29 :: c30 :: c31 :: c32 :: c33 :: c34 :: c35 :: c36 :: c37 :: c38 :: c39 :: c40 :: c41 :: c42 :: c43 :: c44 :: c45 :: c46 :: c47 :: c48 :: c49 :: c50 :: c51 :: c52 :: c53 :: c54 :: c55 :: c56 :: c57 :: c58 :: c59 :: c60 :: c61 :: c62 :: c63 :: c64 :: c65 :: c66 :: c67 :: c68 :: c69 :: c70 :: c71 :: c72 :: c73 :: c74 :: c75 :: c76 :: c77 :: c78 :: c79 :: c80 :: c81 :: c82 :: c83 :: c84 :: c85 :: c86 :: c87 :: c88 :: c89 :: c90 :: c91 :: c92 :: c93 :: c94 :: c95 :: c96 :: c97 :: c98 :: c99 :: c100 :: c101 :: c102 :: c103 :: c104 :: c105 :: c106 :: c107 :: c108 :: c109 :: c110 :: c111 :: c112 :: c113 :: c114 :: c115 :: c116 :: c117 :: c118 :: c119 :: c120 :: c121 :: c122 :: c123 :: c124 :: c125 :: c126 :: c127 :: c128 :: c129 :: c130 :: c131 :: c132 :: c133 :: c134 :: c135 :: c136 :: c137 :: c138 :: []), []⟩ W := by
  have hl := hp.len
  have x0 := hp.cell off h1
  have x1 := hp.cell (off + 1) (by omega)
  have y1 := hp.byte (off + 1) (by omega)
  clear hp
  have e2 : ((off + 2 : Nat) : Int) = (off : Int) + 1 + 1 := by omega
  have e3 : ((R (off + 1) - 128 : Nat) : Int) = (R (off + 1) : Int) - 128 := by omega
  rw [e2, e3] at hT
  clear e2 e3
  conv => arg 2; whnf
  go_wp2_with fail
  exact hT _ _ _ _ _ _ _ _ _ _ _ _ _ _ _ _ _ _ _ _ _ _ _ _ _ _ _ _ _ _ _ _ _ _ _ _ _ _ _ _ _ _ _ _ _ _ _ _ _ _ _ _ _ _ _ _ _ _ _ _ _ _ _ _ _ _ _ _ _ _ _ _ _ _ _ _ _ _ _ _ _ _ _ _ _ _ _ _ _ _ _ _ _ _ _ _ _ _ _ _ _ _ _ _ _ _ _ _ _ _ _ _ _ _ _ _ _ _ _ _ _ _ _ _ _ _ _

set_option maxRecDepth 100000 in
set_option maxHeartbeats 4000000 in
theorem head_cut (g n cap r v off : Nat) (R : Nat → Nat) (s : St) (W : World) (Q : Exit → Act → World → Prop) (T : Code) (c1 c9 c10 c11 c12 c13 c14 c15 c16 c17 c18 c19 c20 c21 c22 c23 c24 c25 c26 c27 c28 c29 c30 c31 c32 c33 c34 c35 c36 c37 c38 c39 c40 c41 c42 c43 c44 c45 c46 c47 c48 c49 c50 c51 c52 c53 c54 c55 c56 c57 c58 c59 c60 c61 c62 c63 c64 c65 c66 c67 c68 c69 c70 c71 c72 c73 c74 c75 c76 c77 c78 c79 c80 c81 c82 c83 c84 c85 c86 c87 c88 c89 c90 c91 c92 c93 c94 c95 c96 c97 c98 c99 c100 c101 c102 c103 c104 c105 c106 c107 c108 c109 c110 c111 c112 c113 c114 c115 c116 c117 c118 c119 c120 c121 c122 c123 c124 c125 c126 c127 c128 c129 c130 c131 c132 c133 c134 c135 c136 c137 c138 : Value) (hp : Pdu W g n R) (b1 : Box W r St.zero.cells) (h1 : off < n) (h2 : off + 1 < n) (h3 : R (off + 1) < 128) (h4 : n ≤ off + 2) (hQ : Fails r (off + 1) Q W) :
    Code.wp Ybaf.prog (cut5 T in11) Q ⟨List.toArray (.slice (some ⟨g, 0, none⟩) n cap :: c1 :: .pointer (some ⟨r, 0, none⟩) :: .bool false :: .int .i64 0 :: .pointer (some ⟨v, 0, none⟩) :: .bool s.hb :: .int .i64 (off : Int) :: .int .i64 (n : Int) :: c9 :: c10 :: c11 :: c12 :: c13 :: c14 :: c15 :: c16 :: c17 :: c18 :: c19 :: c20 :: c21 :: c22 :: c23 :: c24 :: c25 :: c26 :: c27 :: c28 :: c29 :: c30 :: c31 :: c32 :: c33 :: c34 :: c35 :: c36 :: c37 :: c38 :: c39 :: c40 :: c41 :: c42 :: c43 :: c44 :: c45 :: c46 :: c47 :: c48 :: c49 :: c50 :: c51 :: c52 :: c53 :: c54 :: c55 :: c56 :: c57 :: c58 :: c59 :: c60 :: c61 :: c62 :: c63 :: c64 :: c65 :: c66 :: c67 :: c68 :: c69 :: c70 :: c71 :: c72 :: c73 :: c74 :: c75 :: c76 :: c77 :: c78 :: c79 :: c80 :: c81 :: c82 :: c83 :: c84 :: c85 :: c86 :: c87 :: c88 :: c89 :: c90 :: c91 :: c92 :: c93 :: c94 :: c95 :: c96 :: c97 :: c98 :: c99 :: c100 :: c101 :: c102 :: c103 :: c104 :: c105 :: c106 :: c107 :: c108 :: c109 :: c110 :: c111 :: c112 :: c113 :: c114 :: c115 :: c116 :: c117 :: c118 :: c119 :: c120 :: c121 :: c122 :: c123 :: c124 :: c125 :: c126 :: c127 :: c128 :: c129 :: c130 :: c131 :: c132 :: c133 :: c134 :: c135 :: c136 :: c137 :: c138 :: []), []⟩ W := by
  have hl := hp.len
  have x0 := hp.cell off h1
  have x1 := hp.cell (off + 1) (by omega)
  have y1 := hp.byte (off + 1) (by omega)
  have u0 := b1.cell 0 _ rfl
  have u1 := b1.cell 1 _ rfl
  have u2 := b1.cell 2 _ rfl
  have u3 := b1.cell 3 _ rfl
  have u4 := b1.cell 4 _ rfl
  have u5 := b1.cell 5 _ rfl
  have u6 := b1.cell 6 _ rfl
  have uf := b1.frz
  simp only [St.zero, Cl.zero] at u0 u1 u2 u3 u4 u5 u6
  have e1 := b1.set St.zero.cells rfl
  have kE := Kept.setCells (S := (· = r)) r St.zero.cells 0 (Kept.refl _ W) (.inl rfl)
  clear hp b1
  conv => arg 2; whnf
  go_wp2_with fail
  exact hQ _ _ rfl rfl rfl rfl kE e1

set_option maxRecDepth 100000 in
set_option maxHeartbeats 4000000 in
theorem head_long (g n cap r v off : Nat) (R : Nat → Nat) (s : St) (W : World) (Q : Exit → Act → World → Prop) (T : Code) (c1 c9 c10 c11 c12 c13 c14 c15 c16 c17 c18 c19 c20 c21 c22 c23 c24 c25 c26 c27 c28 c29 c30 c31 c32 c33 c34 c35 c36 c37 c38 c39 c40 c41 c42 c43 c44 c45 c46 c47 c48 c49 c50 c51 c52 c53 c54 c55 c56 c57 c58 c59 c60 c61 c62 c63 c64 c65 c66 c67 c68 c69 c70 c71 c72 c73 c74 c75 c76 c77 c78 c79 c80 c81 c82 c83 c84 c85 c86 c87 c88 c89 c90 c91 c92 c93 c94 c95 c96 c97 c98 c99 c100 c101 c102 c103 c104 c105 c106 c107 c108 c109 c110 c111 c112 c113 c114 c115 c116 c117 c118 c119 c120 c121 c122 c123 c124 c125 c126 c127 c128 c129 c130 c131 c132 c133 c134 c135 c136 c137 c138 : Value) (hp : Pdu W g n R) (h1 : off < n) (h2 : off + 2 < n) (h3 : R (off + 1) < 128) (hT : ∀ u12 u13 u14 u15 u16 u17 u18 u19 u20 u21 u22 u23 u24 u25 u26 u27 u28 u29 u30 u31 u32 u33 u34 u35 u36 u37 u38 u39 u40 u41 u42 u43 u44 u45 u46 u47 u48 u49 u50 u51 u52 u53 u54 u55 u56 u57 u58 u59 u60 u61 u62 u63 u64 u65 u66 u67 u68 u69 u70 u71 u72 u73 u74 u75 u76 u77 u78 u79 u80 u81 u82 u83 u84 u85 u86 u87 u88 u89 u90 u91 u92 u93 u94 u95 u96 u97 u98 u99 u100 u101 u102 u103 u104 u105 u106 u107 u108 u109 u110 u111 u112 u113 u114 u115 u116 u117 u118 u119 u120 u121 u122 u123 u124 u125 u126 u127 u128 u129 u130 u131 u132 u133 u134 u135 u136 u137 u138 : Value, Code.wp Ybaf.prog T Q ⟨List.toArray (.slice (some ⟨g, 0, none⟩) n cap :: c1 :: .pointer (some ⟨r, 0, none⟩) :: .bool false :: .int .i64 0 :: .pointer (some ⟨v, 0, none⟩) :: .bool s.hb :: .int .i64 (off : Int) :: .int .i64 (n : Int) :: .int .u8 (R off : Int) :: .int .i64 ((off + 3 : Nat) : Int) :: .int .i64 ((R (off + 1) * 256 + R (off + 2) : Nat) : Int) :: u12 :: u13 :: u14 :: u15 :: u16 :: u17 :: u18 :: u19 :: u20 :: u21 :: u22 :: u23 :: u24 :: u25 :: u26 :: u27 :: u28 :: u29 :: u30 :: u31 :: u32 :: u33 :: u34 :: u35 :: u36 :: u37 :: u38 :: u39 :: u40 :: u41 :: u42 :: u43 :: u44 :: u45 :: u46 :: u47 :: u48 :: u49 :: u50 :: u51 :: u52 :: u53 :: u54 :: u55 :: u56 :: u57 :: u58 :: u59 :: u60 :: u61 :: u62 :: u63 :: u64 :: u65 :: u66 :: u67 :: u68 :: u69 :: u70 :: u71 :: u72 :: u73 :: u74 :: u75 :: u76 :: u77 :: u78 :: u79 :: u80 :: u81 :: u82 :: u83 :: u84 :: u85 :: u86 :: u87 :: u88 :: u89 :: u90 :: u91 :: u92 :: u93 :: u94 :: u95 :: u96 :: u97 :: u98 :: u99 :: u100 :: u101 :: u102 :: u103 :: u104 :: u105 :: u106 :: u107 :: u108 :: u109 :: u110 :: u111 :: u112 :: u113 :: u114 :: u115 :: u116 :: u117 :: u118 :: u119 :: u120 :: u121 :: u122 :: u123 :: u124 :: u125 :: u126 :: u127 :: u128 :: u129 :: u130 :: u131 :: u132 :: u133 :: u134 :: u135 :: u136 :: u137 :: u138 :: []), []⟩ W.drew) :
    Code.wp Ybaf.prog (cut5 T in11) Q ⟨List.toArray (.slice (some ⟨g, 0, none⟩) n cap :: c1 :: .pointer (some ⟨r, 0, none⟩) :: .bool false :: .int .i64 0 :: .pointer (some ⟨v, 0, none⟩) :: .bool s.hb :: .int .i64 (off : Int) :: .int .i64 (n : Int) :: c9 :: c10 :: c11 :: c12 :: c13 :: c14 :: c15 :: c16 :: c17 :: c18 :: c19 :: c20 :: c21 :: c22 :: c23 :: c24 :: c25 :: c26 :: c27 :: c28 :: c29 :: c30 :: c31 :: c32 :: c33 :: c34 :: c35 :: c36 :: c37 :: c38 :: c39 :: c40 :: c41 :: c42 :: c43 :: c44 :: c45 :: c46 :: c47 :: c48 :: c49 :: c50 :: c51 :: c52 :: c53 :: c54 :: c55 :: c56 :: c57 :: c58 :: c59 :: c60 :: c61 :: c62 :: c63 :: c64 :: c65 :: c66 :: c67 :: c68 :: c69 :: c70 :: c71 :: c72 :: c73 :: c74 :: c75 :: c76 :: c77 :: c78 :: c79 :: c80 :: c81 :: c82 :: c83 :: c84 :: c85 :: c86 :: c87 :: c88 :: c89 :: c90 :: c91 :: c92 :: c93 :: c94 :: c95 :: c96 :: c97 :: c98 :: c99 :: c100 :: c101 :: c102 :: c103 :: c104 :: c105 :: c106 :: c107 :: c108 :: c109 :: c110 :: c111 :: c112 :: c113 :: c114 :: c115 :: c116 :: c117 :: c118 :: c119 :: c120 :: c121 :: c122 :: c123 :: c124 :: c125 :: c126 :: c127 :: c128 :: c129 :: c130 :: c131 :: c132 :: c133 :: c134 :: c135 :: c136 :: c137 :: c138 :: []), []⟩ W := by
  have hl := hp.len
  have x0 := hp.cell off h1
  have x1 := hp.cell (off + 1) (by omega)
  have y1 := hp.byte (off + 1) (by omega)
  have x2 := hp.cell (off + 2) (by omega)
  have y2 := hp.byte (off + 2) (by omega)
  clear hp
  have e2 : ((off + 3 : Nat) : Int) = (off : Int) + 1 + 2 := by omega
  have e3 : ((R (off + 1) * 256 + R (off + 2) : Nat) : Int) = (R (off + 1) : Int) * 256 + R (off + 2) := by omega
  rw [e2, e3] at hT
  clear e2 e3
  conv => arg 2; whnf
  go_wp2_with fail
  go_region
  all_goals (go_wp2_with fail)
  all_goals exact hT _ _ _ _ _ _ _ _ _ _ _ _ _ _ _ _ _ _ _ _ _ _ _ _ _ _ _ _ _ _ _ _ _ _ _ _ _ _ _ _ _ _ _ _ _ _ _ _ _ _ _ _ _ _ _ _ _ _ _ _ _ _ _ _ _ _ _ _ _ _ _ _ _ _ _ _ _ _ _ _ _ _ _ _ _ _ _ _ _ _ _ _ _ _ _ _ _ _ _ _ _ _ _ _ _ _ _ _ _ _ _ _ _ _ _ _ _ _ _ _ _ _ _ _ _ _ _

set_option maxRecDepth 100000 in
set_option maxHeartbeats 4000000 in
theorem s18_past (g n cap r v off : Nat) (R : Nat → Nat) (s : St) (W : World) (Q : Exit → Act → World → Prop) (p l : Nat) (c1 c12 c13 c14 c15 c16 c17 c18 c19 c20 c21 c22 c23 c24 c25 c26 c27 c28 c29 c30 c31 c32 c33 c34 c35 c36 c37 c38 c39 c40 c41 c42 c43 c44 c45 c46 c47 c48 c49 c50 c51 c52 c53 c54 c55 c56 c57 c58 c59 c60 c61 c62 c63 c64 c65 c66 c67 c68 c69 c70 c71 c72 c73 c74 c75 c76 c77 c78 c79 c80 c81 c82 c83 c84 c85 c86 c87 c88 c89 c90 c91 c92 c93 c94 c95 c96 c97 c98 c99 c100 c101 c102 c103 c104 c105 c106 c107 c108 c109 c110 c111 c112 c113 c114 c115 c116 c117 c118 c119 c120 c121 c122 c123 c124 c125 c126 c127 c128 c129 c130 c131 c132 c133 c134 c135 c136 c137 c138 : Value) (hp : Pdu W g n R) (b1 : Box W r St.zero.cells) (hpn : p ≤ n) (h3 : n < p + l) (hQ : Fails r off Q W) :
    Code.wp Ybaf.prog s18 Q ⟨List.toArray (.slice (some ⟨g, 0, none⟩) n cap :: c1 :: .pointer (some ⟨r, 0, none⟩) :: .bool false :: .int .i64 0 :: .pointer (some ⟨v, 0, none⟩) :: .bool s.hb :: .int .i64 (off : Int) :: .int .i64 (n : Int) :: .int .u8 (R off : Int) :: .int .i64 (p : Int) :: .int .i64 (l : Int) :: c12 :: c13 :: c14 :: c15 :: c16 :: c17 :: c18 :: c19 :: c20 :: c21 :: c22 :: c23 :: c24 :: c25 :: c26 :: c27 :: c28 :: c29 :: c30 :: c31 :: c32 :: c33 :: c34 :: c35 :: c36 :: c37 :: c38 :: c39 :: c40 :: c41 :: c42 :: c43 :: c44 :: c45 :: c46 :: c47 :: c48 :: c49 :: c50 :: c51 :: c52 :: c53 :: c54 :: c55 :: c56 :: c57 :: c58 :: c59 :: c60 :: c61 :: c62 :: c63 :: c64 :: c65 :: c66 :: c67 :: c68 :: c69 :: c70 :: c71 :: c72 :: c73 :: c74 :: c75 :: c76 :: c77 :: c78 :: c79 :: c80 :: c81 :: c82 :: c83 :: c84 :: c85 :: c86 :: c87 :: c88 :: c89 :: c90 :: c91 :: c92 :: c93 :: c94 :: c95 :: c96 :: c97 :: c98 :: c99 :: c100 :: c101 :: c102 :: c103 :: c104 :: c105 :: c106 :: c107 :: c108 :: c109 :: c110 :: c111 :: c112 :: c113 :: c114 :: c115 :: c116 :: c117 :: c118 :: c119 :: c120 :: c121 :: c122 :: c123 :: c124 :: c125 :: c126 :: c127 :: c128 :: c129 :: c130 :: c131 :: c132 :: c133 :: c134 :: c135 :: c136 :: c137 :: c138 :: []), []⟩ W := by
  have hl := hp.len
  have u0 := b1.cell 0 _ rfl
  have u1 := b1.cell 1 _ rfl
  have u2 := b1.cell 2 _ rfl
  have u3 := b1.cell 3 _ rfl
  have u4 := b1.cell 4 _ rfl
  have u5 := b1.cell 5 _ rfl
  have u6 := b1.cell 6 _ rfl
  have uf := b1.frz
  simp only [St.zero, Cl.zero] at u0 u1 u2 u3 u4 u5 u6
  have e1 := b1.set St.zero.cells rfl
  have kE := Kept.setCells (S := (· = r)) r St.zero.cells 0 (Kept.refl _ W) (.inl rfl)
  clear hp b1
  conv => arg 2; whnf
  go_wp2_with fail
  exact hQ _ _ rfl rfl rfl rfl kE e1

set_option maxRecDepth 100000 in
set_option maxHeartbeats 4000000 in
theorem s18_ok (g n cap r v off : Nat) (R : Nat → Nat) (s : St) (W : World) (Q : Exit → Act → World → Prop) (p l : Nat) (c1 c12 c13 c14 c15 c16 c17 c18 c19 c20 c21 c22 c23 c24 c25 c26 c27 c28 c29 c30 c31 c32 c33 c34 c35 c36 c37 c38 c39 c40 c41 c42 c43 c44 c45 c46 c47 c48 c49 c50 c51 c52 c53 c54 c55 c56 c57 c58 c59 c60 c61 c62 c63 c64 c65 c66 c67 c68 c69 c70 c71 c72 c73 c74 c75 c76 c77 c78 c79 c80 c81 c82 c83 c84 c85 c86 c87 c88 c89 c90 c91 c92 c93 c94 c95 c96 c97 c98 c99 c100 c101 c102 c103 c104 c105 c106 c107 c108 c109 c110 c111 c112 c113 c114 c115 c116 c117 c118 c119 c120 c121 c122 c123 c124 c125 c126 c127 c128 c129 c130 c131 c132 c133 c134 c135 c136 c137 c138 : Value) (hp : Pdu W g n R) (h2 : p + l ≤ n) (hQ : ∀ u12 u13 u14 u15 u16 u17 u18 u19 u20 u21 u22 u23 u24 u25 u26 u27 u28 u29 u30 u31 u32 u33 u34 u35 u36 u37 u38 u39 u40 u41 u42 u43 u44 u45 u46 u47 u48 u49 u50 u51 u52 u53 u54 u55 u56 u57 u58 u59 u60 u61 u62 u63 u64 u65 u66 u67 u68 u69 u70 u71 u72 u73 u74 u75 u76 u77 u78 u79 u80 u81 u82 u83 u84 u85 u86 u87 u88 u89 u90 u91 u92 u93 u94 u95 u96 u97 u98 u99 u100 u101 u102 u103 u104 u105 u106 u107 u108 u109 u110 u111 u112 u113 u114 u115 u116 u117 u118 u119 u120 u121 u122 u123 u124 u125 u126 u127 u128 u129 u130 u131 u132 u133 u134 u135 u136 u137 u138 : Value, Q .normal ⟨List.toArray (.slice (some ⟨g, 0, none⟩) n cap :: c1 :: .pointer (some ⟨r, 0, none⟩) :: .bool false :: .int .i64 0 :: .pointer (some ⟨v, 0, none⟩) :: .bool s.hb :: .int .i64 (off : Int) :: .int .i64 (n : Int) :: .int .u8 (R off : Int) :: .int .i64 (p : Int) :: .int .i64 (l : Int) :: u12 :: u13 :: u14 :: u15 :: u16 :: u17 :: u18 :: u19 :: u20 :: u21 :: u22 :: u23 :: u24 :: u25 :: u26 :: u27 :: u28 :: u29 :: u30 :: u31 :: u32 :: u33 :: u34 :: u35 :: u36 :: u37 :: u38 :: u39 :: u40 :: u41 :: u42 :: u43 :: u44 :: u45 :: u46 :: u47 :: u48 :: u49 :: u50 :: u51 :: u52 :: u53 :: u54 :: u55 :: u56 :: u57 :: u58 :: u59 :: u60 :: u61 :: u62 :: u63 :: u64 :: u65 :: u66 :: u67 :: u68 :: u69 :: u70 :: u71 :: u72 :: u73 :: u74 :: u75 :: u76 :: u77 :: u78 :: u79 :: u80 :: u81 :: u82 :: u83 :: u84 :: u85 :: u86 :: u87 :: u88 :: u89 :: u90 :: u91 :: u92 :: u93 :: u94 :: u95 :: u96 :: u97 :: u98 :: u99 :: u100 :: u101 :: u102 :: u103 :: u104 :: u105 :: u106 :: u107 :: u108 :: u109 :: u110 :: u111 :: u112 :: u113 :: u114 :: u115 :: u116 :: u117 :: u118 :: u119 :: u120 :: u121 :: u122 :: u123 :: u124 :: u125 :: u126 :: u127 :: u128 :: u129 :: u130 :: u131 :: u132 :: u133 :: u134 :: u135 :: u136 :: u137 :: u138 :: []), []⟩ W) :
    Code.wp Ybaf.prog s18 Q ⟨List.toArray (.slice (some ⟨g, 0, none⟩) n cap :: c1 :: .pointer (some ⟨r, 0, none⟩) :: .bool false :: .int .i64 0 :: .pointer (some ⟨v, 0, none⟩) :: .bool s.hb :: .int .i64 (off : Int) :: .int .i64 (n : Int) :: .int .u8 (R off : Int) :: .int .i64 (p : Int) :: .int .i64 (l : Int) :: c12 :: c13 :: c14 :: c15 :: c16 :: c17 :: c18 :: c19 :: c20 :: c21 :: c22 :: c23 :: c24 :: c25 :: c26 :: c27 :: c28 :: c29 :: c30 :: c31 :: c32 :: c33 :: c34 :: c35 :: c36 :: c37 :: c38 :: c39 :: c40 :: c41 :: c42 :: c43 :: c44 :: c45 :: c46 :: c47 :: c48 :: c49 :: c50 :: c51 :: c52 :: c53 :: c54 :: c55 :: c56 :: c57 :: c58 :: c59 :: c60 :: c61 :: c62 :: c63 :: c64 :: c65 :: c66 :: c67 :: c68 :: c69 :: c70 :: c71 :: c72 :: c73 :: c74 :: c75 :: c76 :: c77 :: c78 :: c79 :: c80 :: c81 :: c82 :: c83 :: c84 :: c85 :: c86 :: c87 :: c88 :: c89 :: c90 :: c91 :: c92 :: c93 :: c94 :: c95 :: c96 :: c97 :: c98 :: c99 :: c100 :: c101 :: c102 :: c103 :: c104 :: c105 :: c106 :: c107 :: c108 :: c109 :: c110 :: c111 :: c112 :: c113 :: c114 :: c115 :: c116 :: c117 :: c118 :: c119 :: c120 :: c121 :: c122 :: c123 :: c124 :: c125 :: c126 :: c127 :: c128 :: c129 :: c130 :: c131 :: c132 :: c133 :: c134 :: c135 :: c136 :: c137 :: c138 :: []), []⟩ W := by
  have hl := hp.len
  clear hp
  conv => arg 2; whnf
  go_wp2_with fail
  first | done | exact hQ _ _ _ _ _ _ _ _ _ _ _ _ _ _ _ _ _ _ _ _ _ _ _ _ _ _ _ _ _ _ _ _ _ _ _ _ _ _ _ _ _ _ _ _ _ _ _ _ _ _ _ _ _ _ _ _ _ _ _ _ _ _ _ _ _ _ _ _ _ _ _ _ _ _ _ _ _ _ _ _ _ _ _ _ _ _ _ _ _ _ _ _ _ _ _ _ _ _ _ _ _ _ _ _ _ _ _ _ _ _ _ _ _ _ _ _ _ _ _ _ _ _ _ _ _ _ _

set_option maxRecDepth 100000 in
set_option maxHeartbeats 4000000 in
theorem sA_bad (g n cap r v off : Nat) (R : Nat → Nat) (_s : St) (W : World) (Q : Exit → Act → World → Prop) (p l : Nat) (c1 c12 c13 c14 c15 c16 c17 c18 c19 c20 c21 c22 c23 c24 c25 c26 c27 c28 c29 c30 c31 c32 c33 c34 c35 c36 c37 c38 c39 c40 c41 c42 c43 c44 c45 c46 c47 c48 c49 c50 c51 c52 c53 c54 c55 c56 c57 c58 c59 c60 c61 c62 c63 c64 c65 c66 c67 c68 c69 c70 c71 c72 c73 c74 c75 c76 c77 c78 c79 c80 c81 c82 c83 c84 c85 c86 c87 c88 c89 c90 c91 c92 c93 c94 c95 c96 c97 c98 c99 c100 c101 c102 c103 c104 c105 c106 c107 c108 c109 c110 c111 c112 c113 c114 c115 c116 c117 c118 c119 c120 c121 c122 c123 c124 c125 c126 c127 c128 c129 c130 c131 c132 c133 c134 c135 c136 c137 c138 : Value) (hp : Pdu W g n R) (b1 : Box W r St.zero.cells) (q4 : ((R off : Int) == 4) = true) (h3 : l ≠ 2) (hQ : Fails r off Q W) :
    Code.wp Ybaf.prog s20 Q ⟨List.toArray (.slice (some ⟨g, 0, none⟩) n cap :: c1 :: .pointer (some ⟨r, 0, none⟩) :: .bool false :: .int .i64 0 :: .pointer (some ⟨v, 0, none⟩) :: .bool false :: .int .i64 (off : Int) :: .int .i64 (n : Int) :: .int .u8 (R off : Int) :: .int .i64 (p : Int) :: .int .i64 (l : Int) :: c12 :: c13 :: c14 :: c15 :: c16 :: c17 :: c18 :: c19 :: c20 :: c21 :: c22 :: c23 :: c24 :: c25 :: c26 :: c27 :: c28 :: c29 :: c30 :: c31 :: c32 :: c33 :: c34 :: c35 :: c36 :: c37 :: c38 :: c39 :: c40 :: c41 :: c42 :: c43 :: c44 :: c45 :: c46 :: c47 :: c48 :: c49 :: c50 :: c51 :: c52 :: c53 :: c54 :: c55 :: c56 :: c57 :: c58 :: c59 :: c60 :: c61 :: c62 :: c63 :: c64 :: c65 :: c66 :: c67 :: c68 :: c69 :: c70 :: c71 :: c72 :: c73 :: c74 :: c75 :: c76 :: c77 :: c78 :: c79 :: c80 :: c81 :: c82 :: c83 :: c84 :: c85 :: c86 :: c87 :: c88 :: c89 :: c90 :: c91 :: c92 :: c93 :: c94 :: c95 :: c96 :: c97 :: c98 :: c99 :: c100 :: c101 :: c102 :: c103 :: c104 :: c105 :: c106 :: c107 :: c108 :: c109 :: c110 :: c111 :: c112 :: c113 :: c114 :: c115 :: c116 :: c117 :: c118 :: c119 :: c120 :: c121 :: c122 :: c123 :: c124 :: c125 :: c126 :: c127 :: c128 :: c129 :: c130 :: c131 :: c132 :: c133 :: c134 :: c135 :: c136 :: c137 :: c138 :: []), []⟩ W := by
  have hl := hp.len
  have u0 := b1.cell 0 _ rfl
  have u1 := b1.cell 1 _ rfl
  have u2 := b1.cell 2 _ rfl
  have u3 := b1.cell 3 _ rfl
  have u4 := b1.cell 4 _ rfl
  have u5 := b1.cell 5 _ rfl
  have u6 := b1.cell 6 _ rfl
  have uf := b1.frz
  simp only [St.zero, Cl.zero] at u0 u1 u2 u3 u4 u5 u6
  have e1 := b1.set St.zero.cells rfl
  have kE := Kept.setCells (S := (· = r)) r St.zero.cells 0 (Kept.refl _ W) (.inl rfl)
  clear hp b1
  conv => arg 2; whnf
  go_wp2_with fail
  exact hQ _ _ rfl rfl rfl rfl kE e1

set_option maxRecDepth 100000 in
set_option maxHeartbeats 4000000 in
theorem sA_ok (g n cap r v off : Nat) (R : Nat → Nat) (s : St) (W : World) (Q : Exit → Act → World → Prop) (p : Nat) (c1 c12 c13 c14 c15 c16 c17 c18 c19 c20 c21 c22 c23 c24 c25 c26 c27 c28 c29 c30 c31 c32 c33 c34 c35 c36 c37 c38 c39 c40 c41 c42 c43 c44 c45 c46 c47 c48 c49 c50 c51 c52 c53 c54 c55 c56 c57 c58 c59 c60 c61 c62 c63 c64 c65 c66 c67 c68 c69 c70 c71 c72 c73 c74 c75 c76 c77 c78 c79 c80 c81 c82 c83 c84 c85 c86 c87 c88 c89 c90 c91 c92 c93 c94 c95 c96 c97 c98 c99 c100 c101 c102 c103 c104 c105 c106 c107 c108 c109 c110 c111 c112 c113 c114 c115 c116 c117 c118 c119 c120 c121 c122 c123 c124 c125 c126 c127 c128 c129 c130 c131 c132 c133 c134 c135 c136 c137 c138 : Value) (hp : Pdu W g n R) (bv : Box W v s.cells) (h2 : p + 2 ≤ n) (q4 : ((R off : Int) == 4) = true) (hQ : ∀ u12 u13 u14 u15 u16 u17 u18 u19 u20 u21 u22 u23 u24 u25 u26 u27 u28 u29 u30 u31 u32 u33 u34 u35 u36 u37 u38 u39 u40 u41 u42 u43 u44 u45 u46 u47 u48 u49 u50 u51 u52 u53 u54 u55 u56 u57 u58 u59 u60 u61 u62 u63 u64 u65 u66 u67 u68 u69 u70 u71 u72 u73 u74 u75 u76 u77 u78 u79 u80 u81 u82 u83 u84 u85 u86 u87 u88 u89 u90 u91 u92 u93 u94 u95 u96 u97 u98 u99 u100 u101 u102 u103 u104 u105 u106 u107 u108 u109 u110 u111 u112 u113 u114 u115 u116 u117 u118 u119 u120 u121 u122 u123 u124 u125 u126 u127 u128 u129 u130 u131 u132 u133 u134 u135 u136 u137 u138 : Value, Q .normal ⟨List.toArray (.slice (some ⟨g, 0, none⟩) n cap :: c1 :: .pointer (some ⟨r, 0, none⟩) :: .bool false :: .int .i64 0 :: .pointer (some ⟨v, 0, none⟩) :: .bool true :: .int .i64 (off : Int) :: .int .i64 (n : Int) :: .int .u8 (R off : Int) :: .int .i64 (p : Int) :: .int .i64 2 :: u12 :: u13 :: u14 :: u15 :: u16 :: u17 :: u18 :: u19 :: u20 :: u21 :: u22 :: u23 :: u24 :: u25 :: u26 :: u27 :: u28 :: u29 :: u30 :: u31 :: u32 :: u33 :: u34 :: u35 :: u36 :: u37 :: u38 :: u39 :: u40 :: u41 :: u42 :: u43 :: u44 :: u45 :: u46 :: u47 :: u48 :: u49 :: u50 :: u51 :: u52 :: u53 :: u54 :: u55 :: u56 :: u57 :: u58 :: u59 :: u60 :: u61 :: u62 :: u63 :: u64 :: u65 :: u66 :: u67 :: u68 :: u69 :: u70 :: u71 :: u72 :: u73 :: u74 :: u75 :: u76 :: u77 :: u78 :: u79 :: u80 :: u81 :: u82 :: u83 :: u84 :: u85 :: u86 :: u87 :: u88 :: u89 :: u90 :: u91 :: u92 :: u93 :: u94 :: u95 :: u96 :: u97 :: u98 :: u99 :: u100 :: u101 :: u102 :: u103 :: u104 :: u105 :: u106 :: u107 :: u108 :: u109 :: u110 :: u111 :: u112 :: u113 :: u114 :: u115 :: u116 :: u117 :: u118 :: u119 :: u120 :: u121 :: u122 :: u123 :: u124 :: u125 :: u126 :: u127 :: u128 :: u129 :: u130 :: u131 :: u132 :: u133 :: u134 :: u135 :: u136 :: u137 :: u138 :: []), []⟩ (W.setCell ⟨v, 0, none⟩ (.int .u16 ((R p : Int) * 256 + R (p + 1)))).drew) :
    Code.wp Ybaf.prog s20 Q ⟨List.toArray (.slice (some ⟨g, 0, none⟩) n cap :: c1 :: .pointer (some ⟨r, 0, none⟩) :: .bool false :: .int .i64 0 :: .pointer (some ⟨v, 0, none⟩) :: .bool false :: .int .i64 (off : Int) :: .int .i64 (n : Int) :: .int .u8 (R off : Int) :: .int .i64 (p : Int) :: .int .i64 2 :: c12 :: c13 :: c14 :: c15 :: c16 :: c17 :: c18 :: c19 :: c20 :: c21 :: c22 :: c23 :: c24 :: c25 :: c26 :: c27 :: c28 :: c29 :: c30 :: c31 :: c32 :: c33 :: c34 :: c35 :: c36 :: c37 :: c38 :: c39 :: c40 :: c41 :: c42 :: c43 :: c44 :: c45 :: c46 :: c47 :: c48 :: c49 :: c50 :: c51 :: c52 :: c53 :: c54 :: c55 :: c56 :: c57 :: c58 :: c59 :: c60 :: c61 :: c62 :: c63 :: c64 :: c65 :: c66 :: c67 :: c68 :: c69 :: c70 :: c71 :: c72 :: c73 :: c74 :: c75 :: c76 :: c77 :: c78 :: c79 :: c80 :: c81 :: c82 :: c83 :: c84 :: c85 :: c86 :: c87 :: c88 :: c89 :: c90 :: c91 :: c92 :: c93 :: c94 :: c95 :: c96 :: c97 :: c98 :: c99 :: c100 :: c101 :: c102 :: c103 :: c104 :: c105 :: c106 :: c107 :: c108 :: c109 :: c110 :: c111 :: c112 :: c113 :: c114 :: c115 :: c116 :: c117 :: c118 :: c119 :: c120 :: c121 :: c122 :: c123 :: c124 :: c125 :: c126 :: c127 :: c128 :: c129 :: c130 :: c131 :: c132 :: c133 :: c134 :: c135 :: c136 :: c137 :: c138 :: []), []⟩ W := by
  have hl := hp.len
  have x0 := hp.cell p (by omega)
  have x1 := hp.cell (p + 1) (by omega)
  have y0 := hp.byte p (by omega)
  have y1 := hp.byte (p + 1) (by omega)
  have q := or_u16 (R p) (R (p + 1)) y0 y1
  have v0 := bv.cell 0 _ rfl
  have vf := bv.frz 0
  clear hp bv
  conv => arg 2; whnf
  go_wp2_with fail
  go_region
  all_goals (go_wp2_with fail)
  all_goals (first | done | exact hQ _ _ _ _ _ _ _ _ _ _ _ _ _ _ _ _ _ _ _ _ _ _ _ _ _ _ _ _ _ _ _ _ _ _ _ _ _ _ _ _ _ _ _ _ _ _ _ _ _ _ _ _ _ _ _ _ _ _ _ _ _ _ _ _ _ _ _ _ _ _ _ _ _ _ _ _ _ _ _ _ _ _ _ _ _ _ _ _ _ _ _ _ _ _ _ _ _ _ _ _ _ _ _ _ _ _ _ _ _ _ _ _ _ _ _ _ _ _ _ _ _ _ _ _ _ _ _)

set_option maxRecDepth 100000 in
set_option maxHeartbeats 4000000 in
theorem sN_four (g n cap r v off : Nat) (R : Nat → Nat) (_s : St) (W : World) (Q : Exit → Act → World → Prop) (p l : Nat) (c1 c12 c13 c14 c15 c16 c17 c18 c19 c20 c21 c22 c23 c24 c25 c26 c27 c28 c29 c30 c31 c32 c33 c34 c35 c36 c37 c38 c39 c40 c41 c42 c43 c44 c45 c46 c47 c48 c49 c50 c51 c52 c53 c54 c55 c56 c57 c58 c59 c60 c61 c62 c63 c64 c65 c66 c67 c68 c69 c70 c71 c72 c73 c74 c75 c76 c77 c78 c79 c80 c81 c82 c83 c84 c85 c86 c87 c88 c89 c90 c91 c92 c93 c94 c95 c96 c97 c98 c99 c100 c101 c102 c103 c104 c105 c106 c107 c108 c109 c110 c111 c112 c113 c114 c115 c116 c117 c118 c119 c120 c121 c122 c123 c124 c125 c126 c127 c128 c129 c130 c131 c132 c133 c134 c135 c136 c137 c138 : Value) (hp : Pdu W g n R) (q4 : ((R off : Int) == 4) = true) (q8 : ((R off : Int) == 8) = false) (hQ : ∀ u12 u13 u14 u15 u16 u17 u18 u19 u20 u21 u22 u23 u24 u25 u26 u27 u28 u29 u30 u31 u32 u33 u34 u35 u36 u37 u38 u39 u40 u41 u42 u43 u44 u45 u46 u47 u48 u49 u50 u51 u52 u53 u54 u55 u56 u57 u58 u59 u60 u61 u62 u63 u64 u65 u66 u67 u68 u69 u70 u71 u72 u73 u74 u75 u76 u77 u78 u79 u80 u81 u82 u83 u84 u85 u86 u87 u88 u89 u90 u91 u92 u93 u94 u95 u96 u97 u98 u99 u100 u101 u102 u103 u104 u105 u106 u107 u108 u109 u110 u111 u112 u113 u114 u115 u116 u117 u118 u119 u120 u121 u122 u123 u124 u125 u126 u127 u128 u129 u130 u131 u132 u133 u134 u135 u136 u137 u138 : Value, Q .normal ⟨List.toArray (.slice (some ⟨g, 0, none⟩) n cap :: c1 :: .pointer (some ⟨r, 0, none⟩) :: .bool false :: .int .i64 0 :: .pointer (some ⟨v, 0, none⟩) :: .bool true :: .int .i64 (off : Int) :: .int .i64 (n : Int) :: .int .u8 (R off : Int) :: .int .i64 (p : Int) :: .int .i64 (l : Int) :: u12 :: u13 :: u14 :: u15 :: u16 :: u17 :: u18 :: u19 :: u20 :: u21 :: u22 :: u23 :: u24 :: u25 :: u26 :: u27 :: u28 :: u29 :: u30 :: u31 :: u32 :: u33 :: u34 :: u35 :: u36 :: u37 :: u38 :: u39 :: u40 :: u41 :: u42 :: u43 :: u44 :: u45 :: u46 :: u47 :: u48 :: u49 :: u50 :: u51 :: u52 :: u53 :: u54 :: u55 :: u56 :: u57 :: u58 :: u59 :: u60 :: u61 :: u62 :: u63 :: u64 :: u65 :: u66 :: u67 :: u68 :: u69 :: u70 :: u71 :: u72 :: u73 :: u74 :: u75 :: u76 :: u77 :: u78 :: u79 :: u80 :: u81 :: u82 :: u83 :: u84 :: u85 :: u86 :: u87 :: u88 :: u89 :: u90 :: u91 :: u92 :: u93 :: u94 :: u95 :: u96 :: u97 :: u98 :: u99 :: u100 :: u101 :: u102 :: u103 :: u104 :: u105 :: u106 :: u107 :: u108 :: u109 :: u110 :: u111 :: u112 :: u113 :: u114 :: u115 :: u116 :: u117 :: u118 :: u119 :: u120 :: u121 :: u122 :: u123 :: u124 :: u125 :: u126 :: u127 :: u128 :: u129 :: u130 :: u131 :: u132 :: u133 :: u134 :: u135 :: u136 :: u137 :: u138 :: []), []⟩ W) :
    Code.wp Ybaf.prog s20 Q ⟨List.toArray (.slice (some ⟨g, 0, none⟩) n cap :: c1 :: .pointer (some ⟨r, 0, none⟩) :: .bool false :: .int .i64 0 :: .pointer (some ⟨v, 0, none⟩) :: .bool true :: .int .i64 (off : Int) :: .int .i64 (n : Int) :: .int .u8 (R off : Int) :: .int .i64 (p : Int) :: .int .i64 (l : Int) :: c12 :: c13 :: c14 :: c15 :: c16 :: c17 :: c18 :: c19 :: c20 :: c21 :: c22 :: c23 :: c24 :: c25 :: c26 :: c27 :: c28 :: c29 :: c30 :: c31 :: c32 :: c33 :: c34 :: c35 :: c36 :: c37 :: c38 :: c39 :: c40 :: c41 :: c42 :: c43 :: c44 :: c45 :: c46 :: c47 :: c48 :: c49 :: c50 :: c51 :: c52 :: c53 :: c54 :: c55 :: c56 :: c57 :: c58 :: c59 :: c60 :: c61 :: c62 :: c63 :: c64 :: c65 :: c66 :: c67 :: c68 :: c69 :: c70 :: c71 :: c72 :: c73 :: c74 :: c75 :: c76 :: c77 :: c78 :: c79 :: c80 :: c81 :: c82 :: c83 :: c84 :: c85 :: c86 :: c87 :: c88 :: c89 :: c90 :: c91 :: c92 :: c93 :: c94 :: c95 :: c96 :: c97 :: c98 :: c99 :: c100 :: c101 :: c102 :: c103 :: c104 :: c105 :: c106 :: c107 :: c108 :: c109 :: c110 :: c111 :: c112 :: c113 :: c114 :: c115 :: c116 :: c117 :: c118 :: c119 :: c120 :: c121 :: c122 :: c123 :: c124 :: c125 :: c126 :: c127 :: c128 :: c129 :: c130 :: c131 :: c132 :: c133 :: c134 :: c135 :: c136 :: c137 :: c138 :: []), []⟩ W := by
  have hl := hp.len
  clear hp
  conv => arg 2; whnf
  go_wp2_with fail
  first | done | exact hQ _ _ _ _ _ _ _ _ _ _ _ _ _ _ _ _ _ _ _ _ _ _ _ _ _ _ _ _ _ _ _ _ _ _ _ _ _ _ _ _ _ _ _ _ _ _ _ _ _ _ _ _ _ _ _ _ _ _ _ _ _ _ _ _ _ _ _ _ _ _ _ _ _ _ _ _ _ _ _ _ _ _ _ _ _ _ _ _ _ _ _ _ _ _ _ _ _ _ _ _ _ _ _ _ _ _ _ _ _ _ _ _ _ _ _ _ _ _ _ _ _ _ _ _ _ _ _

set_option maxRecDepth 100000 in
set_option maxHeartbeats 4000000 in
theorem sN_eight (g n cap r v off : Nat) (R : Nat → Nat) (s : St) (W : World) (Q : Exit → Act → World → Prop) (p l : Nat) (c1 c12 c13 c14 c15 c16 c17 c18 c19 c20 c21 c22 c23 c24 c25 c26 c27 c28 c29 c30 c31 c32 c33 c34 c35 c36 c37 c38 c39 c40 c41 c42 c43 c44 c45 c46 c47 c48 c49 c50 c51 c52 c53 c54 c55 c56 c57 c58 c59 c60 c61 c62 c63 c64 c65 c66 c67 c68 c69 c70 c71 c72 c73 c74 c75 c76 c77 c78 c79 c80 c81 c82 c83 c84 c85 c86 c87 c88 c89 c90 c91 c92 c93 c94 c95 c96 c97 c98 c99 c100 c101 c102 c103 c104 c105 c106 c107 c108 c109 c110 c111 c112 c113 c114 c115 c116 c117 c118 c119 c120 c121 c122 c123 c124 c125 c126 c127 c128 c129 c130 c131 c132 c133 c134 c135 c136 c137 c138 : Value) (hp : Pdu W g n R) (bv : Box W v s.cells) (q4 : ((R off : Int) == 4) = false) (q8 : ((R off : Int) == 8) = true) (hc : s.hc = true) (hQ : ∀ u12 u13 u14 u15 u16 u17 u18 u19 u20 u21 u22 u23 u24 u25 u26 u27 u28 u29 u30 u31 u32 u33 u34 u35 u36 u37 u38 u39 u40 u41 u42 u43 u44 u45 u46 u47 u48 u49 u50 u51 u52 u53 u54 u55 u56 u57 u58 u59 u60 u61 u62 u63 u64 u65 u66 u67 u68 u69 u70 u71 u72 u73 u74 u75 u76 u77 u78 u79 u80 u81 u82 u83 u84 u85 u86 u87 u88 u89 u90 u91 u92 u93 u94 u95 u96 u97 u98 u99 u100 u101 u102 u103 u104 u105 u106 u107 u108 u109 u110 u111 u112 u113 u114 u115 u116 u117 u118 u119 u120 u121 u122 u123 u124 u125 u126 u127 u128 u129 u130 u131 u132 u133 u134 u135 u136 u137 u138 : Value, Q .normal ⟨List.toArray (.slice (some ⟨g, 0, none⟩) n cap :: c1 :: .pointer (some ⟨r, 0, none⟩) :: .bool false :: .int .i64 0 :: .pointer (some ⟨v, 0, none⟩) :: .bool s.hb :: .int .i64 (off : Int) :: .int .i64 (n : Int) :: .int .u8 (R off : Int) :: .int .i64 (p : Int) :: .int .i64 (l : Int) :: u12 :: u13 :: u14 :: u15 :: u16 :: u17 :: u18 :: u19 :: u20 :: u21 :: u22 :: u23 :: u24 :: u25 :: u26 :: u27 :: u28 :: u29 :: u30 :: u31 :: u32 :: u33 :: u34 :: u35 :: u36 :: u37 :: u38 :: u39 :: u40 :: u41 :: u42 :: u43 :: u44 :: u45 :: u46 :: u47 :: u48 :: u49 :: u50 :: u51 :: u52 :: u53 :: u54 :: u55 :: u56 :: u57 :: u58 :: u59 :: u60 :: u61 :: u62 :: u63 :: u64 :: u65 :: u66 :: u67 :: u68 :: u69 :: u70 :: u71 :: u72 :: u73 :: u74 :: u75 :: u76 :: u77 :: u78 :: u79 :: u80 :: u81 :: u82 :: u83 :: u84 :: u85 :: u86 :: u87 :: u88 :: u89 :: u90 :: u91 :: u92 :: u93 :: u94 :: u95 :: u96 :: u97 :: u98 :: u99 :: u100 :: u101 :: u102 :: u103 :: u104 :: u105 :: u106 :: u107 :: u108 :: u109 :: u110 :: u111 :: u112 :: u113 :: u114 :: u115 :: u116 :: u117 :: u118 :: u119 :: u120 :: u121 :: u122 :: u123 :: u124 :: u125 :: u126 :: u127 :: u128 :: u129 :: u130 :: u131 :: u132 :: u133 :: u134 :: u135 :: u136 :: u137 :: u138 :: []), []⟩ W) :
    Code.wp Ybaf.prog s20 Q ⟨List.toArray (.slice (some ⟨g, 0, none⟩) n cap :: c1 :: .pointer (some ⟨r, 0, none⟩) :: .bool false :: .int .i64 0 :: .pointer (some ⟨v, 0, none⟩) :: .bool s.hb :: .int .i64 (off : Int) :: .int .i64 (n : Int) :: .int .u8 (R off : Int) :: .int .i64 (p : Int) :: .int .i64 (l : Int) :: c12 :: c13 :: c14 :: c15 :: c16 :: c17 :: c18 :: c19 :: c20 :: c21 :: c22 :: c23 :: c24 :: c25 :: c26 :: c27 :: c28 :: c29 :: c30 :: c31 :: c32 :: c33 :: c34 :: c35 :: c36 :: c37 :: c38 :: c39 :: c40 :: c41 :: c42 :: c43 :: c44 :: c45 :: c46 :: c47 :: c48 :: c49 :: c50 :: c51 :: c52 :: c53 :: c54 :: c55 :: c56 :: c57 :: c58 :: c59 :: c60 :: c61 :: c62 :: c63 :: c64 :: c65 :: c66 :: c67 :: c68 :: c69 :: c70 :: c71 :: c72 :: c73 :: c74 :: c75 :: c76 :: c77 :: c78 :: c79 :: c80 :: c81 :: c82 :: c83 :: c84 :: c85 :: c86 :: c87 :: c88 :: c89 :: c90 :: c91 :: c92 :: c93 :: c94 :: c95 :: c96 :: c97 :: c98 :: c99 :: c100 :: c101 :: c102 :: c103 :: c104 :: c105 :: c106 :: c107 :: c108 :: c109 :: c110 :: c111 :: c112 :: c113 :: c114 :: c115 :: c116 :: c117 :: c118 :: c119 :: c120 :: c121 :: c122 :: c123 :: c124 :: c125 :: c126 :: c127 :: c128 :: c129 :: c130 :: c131 :: c132 :: c133 :: c134 :: c135 :: c136 :: c137 :: c138 :: []), []⟩ W := by
  have hl := hp.len
  have v6 := bv.cell 6 _ rfl
  rw [hc] at v6
  clear hp bv
  conv => arg 2; whnf
  go_wp2_with fail
  first | done | exact hQ _ _ _ _ _ _ _ _ _ _ _ _ _ _ _ _ _ _ _ _ _ _ _ _ _ _ _ _ _ _ _ _ _ _ _ _ _ _ _ _ _ _ _ _ _ _ _ _ _ _ _ _ _ _ _ _ _ _ _ _ _ _ _ _ _ _ _ _ _ _ _ _ _ _ _ _ _ _ _ _ _ _ _ _ _ _ _ _ _ _ _ _ _ _ _ _ _ _ _ _ _ _ _ _ _ _ _ _ _ _ _ _ _ _ _ _ _ _ _ _ _ _ _ _ _ _ _

set_option maxRecDepth 100000 in
set_option maxHeartbeats 4000000 in
theorem sN_other (g n cap r v off : Nat) (R : Nat → Nat) (s : St) (W : World) (Q : Exit → Act → World → Prop) (p l : Nat) (c1 c12 c13 c14 c15 c16 c17 c18 c19 c20 c21 c22 c23 c24 c25 c26 c27 c28 c29 c30 c31 c32 c33 c34 c35 c36 c37 c38 c39 c40 c41 c42 c43 c44 c45 c46 c47 c48 c49 c50 c51 c52 c53 c54 c55 c56 c57 c58 c59 c60 c61 c62 c63 c64 c65 c66 c67 c68 c69 c70 c71 c72 c73 c74 c75 c76 c77 c78 c79 c80 c81 c82 c83 c84 c85 c86 c87 c88 c89 c90 c91 c92 c93 c94 c95 c96 c97 c98 c99 c100 c101 c102 c103 c104 c105 c106 c107 c108 c109 c110 c111 c112 c113 c114 c115 c116 c117 c118 c119 c120 c121 c122 c123 c124 c125 c126 c127 c128 c129 c130 c131 c132 c133 c134 c135 c136 c137 c138 : Value) (hp : Pdu W g n R) (q4 : ((R off : Int) == 4) = false) (q8 : ((R off : Int) == 8) = false) (hQ : ∀ u12 u13 u14 u15 u16 u17 u18 u19 u20 u21 u22 u23 u24 u25 u26 u27 u28 u29 u30 u31 u32 u33 u34 u35 u36 u37 u38 u39 u40 u41 u42 u43 u44 u45 u46 u47 u48 u49 u50 u51 u52 u53 u54 u55 u56 u57 u58 u59 u60 u61 u62 u63 u64 u65 u66 u67 u68 u69 u70 u71 u72 u73 u74 u75 u76 u77 u78 u79 u80 u81 u82 u83 u84 u85 u86 u87 u88 u89 u90 u91 u92 u93 u94 u95 u96 u97 u98 u99 u100 u101 u102 u103 u104 u105 u106 u107 u108 u109 u110 u111 u112 u113 u114 u115 u116 u117 u118 u119 u120 u121 u122 u123 u124 u125 u126 u127 u128 u129 u130 u131 u132 u133 u134 u135 u136 u137 u138 : Value, Q .normal ⟨List.toArray (.slice (some ⟨g, 0, none⟩) n cap :: c1 :: .pointer (some ⟨r, 0, none⟩) :: .bool false :: .int .i64 0 :: .pointer (some ⟨v, 0, none⟩) :: .bool s.hb :: .int .i64 (off : Int) :: .int .i64 (n : Int) :: .int .u8 (R off : Int) :: .int .i64 (p : Int) :: .int .i64 (l : Int) :: u12 :: u13 :: u14 :: u15 :: u16 :: u17 :: u18 :: u19 :: u20 :: u21 :: u22 :: u23 :: u24 :: u25 :: u26 :: u27 :: u28 :: u29 :: u30 :: u31 :: u32 :: u33 :: u34 :: u35 :: u36 :: u37 :: u38 :: u39 :: u40 :: u41 :: u42 :: u43 :: u44 :: u45 :: u46 :: u47 :: u48 :: u49 :: u50 :: u51 :: u52 :: u53 :: u54 :: u55 :: u56 :: u57 :: u58 :: u59 :: u60 :: u61 :: u62 :: u63 :: u64 :: u65 :: u66 :: u67 :: u68 :: u69 :: u70 :: u71 :: u72 :: u73 :: u74 :: u75 :: u76 :: u77 :: u78 :: u79 :: u80 :: u81 :: u82 :: u83 :: u84 :: u85 :: u86 :: u87 :: u88 :: u89 :: u90 :: u91 :: u92 :: u93 :: u94 :: u95 :: u96 :: u97 :: u98 :: u99 :: u100 :: u101 :: u102 :: u103 :: u104 :: u105 :: u106 :: u107 :: u108 :: u109 :: u110 :: u111 :: u112 :: u113 :: u114 :: u115 :: u116 :: u117 :: u118 :: u119 :: u120 :: u121 :: u122 :: u123 :: u124 :: u125 :: u126 :: u127 :: u128 :: u129 :: u130 :: u131 :: u132 :: u133 :: u134 :: u135 :: u136 :: u137 :: u138 :: []), []⟩ W) :
    Code.wp Ybaf.prog s20 Q ⟨List.toArray (.slice (some ⟨g, 0, none⟩) n cap :: c1 :: .pointer (some ⟨r, 0, none⟩) :: .bool false :: .int .i64 0 :: .pointer (some ⟨v, 0, none⟩) :: .bool s.hb :: .int .i64 (off : Int) :: .int .i64 (n : Int) :: .int .u8 (R off : Int) :: .int .i64 (p : Int) :: .int .i64 (l : Int) :: c12 :: c13 :: c14 :: c15 :: c16 :: c17 :: c18 :: c19 :: c20 :: c21 :: c22 :: c23 :: c24 :: c25 :: c26 :: c27 :: c28 :: c29 :: c30 :: c31 :: c32 :: c33 :: c34 :: c35 :: c36 :: c37 :: c38 :: c39 :: c40 :: c41 :: c42 :: c43 :: c44 :: c45 :: c46 :: c47 :: c48 :: c49 :: c50 :: c51 :: c52 :: c53 :: c54 :: c55 :: c56 :: c57 :: c58 :: c59 :: c60 :: c61 :: c62 :: c63 :: c64 :: c65 :: c66 :: c67 :: c68 :: c69 :: c70 :: c71 :: c72 :: c73 :: c74 :: c75 :: c76 :: c77 :: c78 :: c79 :: c80 :: c81 :: c82 :: c83 :: c84 :: c85 :: c86 :: c87 :: c88 :: c89 :: c90 :: c91 :: c92 :: c93 :: c94 :: c95 :: c96 :: c97 :: c98 :: c99 :: c100 :: c101 :: c102 :: c103 :: c104 :: c105 :: c106 :: c107 :: c108 :: c109 :: c110 :: c111 :: c112 :: c113 :: c114 :: c115 :: c116 :: c117 :: c118 :: c119 :: c120 :: c121 :: c122 :: c123 :: c124 :: c125 :: c126 :: c127 :: c128 :: c129 :: c130 :: c131 :: c132 :: c133 :: c134 :: c135 :: c136 :: c137 :: c138 :: []), []⟩ W := by
  have hl := hp.len
  clear hp
  conv => arg 2; whnf
  go_wp2_with fail
  first | done | exact hQ _ _ _ _ _ _ _ _ _ _ _ _ _ _ _ _ _ _ _ _ _ _ _ _ _ _ _ _ _ _ _ _ _ _ _ _ _ _ _ _ _ _ _ _ _ _ _ _ _ _ _ _ _ _ _ _ _ _ _ _ _ _ _ _ _ _ _ _ _ _ _ _ _ _ _ _ _ _ _ _ _ _ _ _ _ _ _ _ _ _ _ _ _ _ _ _ _ _ _ _ _ _ _ _ _ _ _ _ _ _ _ _ _ _ _ _ _ _ _ _ _ _ _ _ _ _ _

set_option maxRecDepth 100000 in
set_option maxHeartbeats 4000000 in
theorem sB_bad (g n cap r v off : Nat) (R : Nat → Nat) (s : St) (W : World) (Q : Exit → Act → World → Prop) (p l : Nat) (c1 c12 c13 c14 c15 c16 c17 c18 c19 c20 c21 c22 c23 c24 c25 c26 c27 c28 c29 c30 c31 c32 c33 c34 c35 c36 c37 c38 c39 c40 c41 c42 c43 c44 c45 c46 c47 c48 c49 c50 c51 c52 c53 c54 c55 c56 c57 c58 c59 c60 c61 c62 c63 c64 c65 c66 c67 c68 c69 c70 c71 c72 c73 c74 c75 c76 c77 c78 c79 c80 c81 c82 c83 c84 c85 c86 c87 c88 c89 c90 c91 c92 c93 c94 c95 c96 c97 c98 c99 c100 c101 c102 c103 c104 c105 c106 c107 c108 c109 c110 c111 c112 c113 c114 c115 c116 c117 c118 c119 c120 c121 c122 c123 c124 c125 c126 c127 c128 c129 c130 c131 c132 c133 c134 c135 c136 c137 c138 : Value) (hp : Pdu W g n R) (b1 : Box W r St.zero.cells) (bv : Box W v s.cells) (q4 : ((R off : Int) == 4) = false) (q8 : ((R off : Int) == 8) = true) (hc : s.hc = false) (h3 : l ≠ 8) (hQ : Fails r off Q W) :
    Code.wp Ybaf.prog s20 Q ⟨List.toArray (.slice (some ⟨g, 0, none⟩) n cap :: c1 :: .pointer (some ⟨r, 0, none⟩) :: .bool false :: .int .i64 0 :: .pointer (some ⟨v, 0, none⟩) :: .bool s.hb :: .int .i64 (off : Int) :: .int .i64 (n : Int) :: .int .u8 (R off : Int) :: .int .i64 (p : Int) :: .int .i64 (l : Int) :: c12 :: c13 :: c14 :: c15 :: c16 :: c17 :: c18 :: c19 :: c20 :: c21 :: c22 :: c23 :: c24 :: c25 :: c26 :: c27 :: c28 :: c29 :: c30 :: c31 :: c32 :: c33 :: c34 :: c35 :: c36 :: c37 :: c38 :: c39 :: c40 :: c41 :: c42 :: c43 :: c44 :: c45 :: c46 :: c47 :: c48 :: c49 :: c50 :: c51 :: c52 :: c53 :: c54 :: c55 :: c56 :: c57 :: c58 :: c59 :: c60 :: c61 :: c62 :: c63 :: c64 :: c65 :: c66 :: c67 :: c68 :: c69 :: c70 :: c71 :: c72 :: c73 :: c74 :: c75 :: c76 :: c77 :: c78 :: c79 :: c80 :: c81 :: c82 :: c83 :: c84 :: c85 :: c86 :: c87 :: c88 :: c89 :: c90 :: c91 :: c92 :: c93 :: c94 :: c95 :: c96 :: c97 :: c98 :: c99 :: c100 :: c101 :: c102 :: c103 :: c104 :: c105 :: c106 :: c107 :: c108 :: c109 :: c110 :: c111 :: c112 :: c113 :: c114 :: c115 :: c116 :: c117 :: c118 :: c119 :: c120 :: c121 :: c122 :: c123 :: c124 :: c125 :: c126 :: c127 :: c128 :: c129 :: c130 :: c131 :: c132 :: c133 :: c134 :: c135 :: c136 :: c137 :: c138 :: []), []⟩ W := by
  have hl := hp.len
  have u0 := b1.cell 0 _ rfl
  have u1 := b1.cell 1 _ rfl
  have u2 := b1.cell 2 _ rfl
  have u3 := b1.cell 3 _ rfl
  have u4 := b1.cell 4 _ rfl
  have u5 := b1.cell 5 _ rfl
  have u6 := b1.cell 6 _ rfl
  have uf := b1.frz
  simp only [St.zero, Cl.zero] at u0 u1 u2 u3 u4 u5 u6
  have e1 := b1.set St.zero.cells rfl
  have kE := Kept.setCells (S := (· = r)) r St.zero.cells 0 (Kept.refl _ W) (.inl rfl)
  have v6 := bv.cell 6 _ rfl
  rw [hc] at v6
  clear hp b1 bv
  conv => arg 2; whnf
  go_wp2_with fail
  exact hQ _ _ rfl rfl rfl rfl kE e1

set_option maxRecDepth 100000 in
set_option maxHeartbeats 4000000 in
theorem t33_done (g n cap r v off : Nat) (R : Nat → Nat) (s : St) (W : World) (Q : Exit → Act → World → Prop) (p l : Nat) (c1 c12 c13 c14 c15 c16 c17 c18 c19 c20 c21 c22 c23 c24 c25 c26 c27 c28 c29 c30 c31 c32 c33 c34 c35 c36 c37 c38 c39 c40 c41 c42 c43 c44 c45 c46 c47 c48 c49 c50 c51 c52 c53 c54 c55 c56 c57 c58 c59 c60 c61 c62 c63 c64 c65 c66 c67 c68 c69 c70 c71 c72 c73 c74 c75 c76 c77 c78 c79 c80 c81 c82 c83 c84 c85 c86 c87 c88 c89 c90 c91 c92 c93 c94 c95 c96 c97 c98 c99 c100 c101 c102 c103 c104 c105 c106 c107 c108 c109 c110 c111 c112 c113 c114 c115 c116 c117 c118 c119 c120 c121 c122 c123 c124 c125 c126 c127 c128 c129 c130 c131 c132 c133 c134 c135 c136 c137 c138 : Value) (hp : Pdu W g n R) (b1 : Box W r St.zero.cells) (bv : Box W v s.cells) (hc : s.hc = true) (hQ : Dones r s Q W) :
    Code.wp Ybaf.prog t33 Q ⟨List.toArray (.slice (some ⟨g, 0, none⟩) n cap :: c1 :: .pointer (some ⟨r, 0, none⟩) :: .bool false :: .int .i64 0 :: .pointer (some ⟨v, 0, none⟩) :: .bool true :: .int .i64 (off : Int) :: .int .i64 (n : Int) :: .int .u8 (R off : Int) :: .int .i64 (p : Int) :: .int .i64 (l : Int) :: c12 :: c13 :: c14 :: c15 :: c16 :: c17 :: c18 :: c19 :: c20 :: c21 :: c22 :: c23 :: c24 :: c25 :: c26 :: c27 :: c28 :: c29 :: c30 :: c31 :: c32 :: c33 :: c34 :: c35 :: c36 :: c37 :: c38 :: c39 :: c40 :: c41 :: c42 :: c43 :: c44 :: c45 :: c46 :: c47 :: c48 :: c49 :: c50 :: c51 :: c52 :: c53 :: c54 :: c55 :: c56 :: c57 :: c58 :: c59 :: c60 :: c61 :: c62 :: c63 :: c64 :: c65 :: c66 :: c67 :: c68 :: c69 :: c70 :: c71 :: c72 :: c73 :: c74 :: c75 :: c76 :: c77 :: c78 :: c79 :: c80 :: c81 :: c82 :: c83 :: c84 :: c85 :: c86 :: c87 :: c88 :: c89 :: c90 :: c91 :: c92 :: c93 :: c94 :: c95 :: c96 :: c97 :: c98 :: c99 :: c100 :: c101 :: c102 :: c103 :: c104 :: c105 :: c106 :: c107 :: c108 :: c109 :: c110 :: c111 :: c112 :: c113 :: c114 :: c115 :: c116 :: c117 :: c118 :: c119 :: c120 :: c121 :: c122 :: c123 :: c124 :: c125 :: c126 :: c127 :: c128 :: c129 :: c130 :: c131 :: c132 :: c133 :: c134 :: c135 :: c136 :: c137 :: c138 :: []), []⟩ W := by
  have hl := hp.len
  have u0 := b1.cell 0 _ rfl
  have u1 := b1.cell 1 _ rfl
  have u2 := b1.cell 2 _ rfl
  have u3 := b1.cell 3 _ rfl
  have u4 := b1.cell 4 _ rfl
  have u5 := b1.cell 5 _ rfl
  have u6 := b1.cell 6 _ rfl
  have uf := b1.frz
  simp only [St.zero, Cl.zero] at u0 u1 u2 u3 u4 u5 u6
  have y0 := bv.cell 0 _ rfl
  have y1 := bv.cell 1 _ rfl
  have y2 := bv.cell 2 _ rfl
  have y3 := bv.cell 3 _ rfl
  have y4 := bv.cell 4 _ rfl
  have y5 := bv.cell 5 _ rfl
  have y6 := bv.cell 6 _ rfl
  have e1 := b1.set s.cells rfl
  have kE := Kept.setCells (S := (· = r)) r s.cells 0 (Kept.refl _ W) (.inl rfl)
  rw [hc] at y6
  simp only [St.cells, hc] at e1 kE
  clear hp b1 bv
  conv => arg 2; whnf
  go_wp2_with fail
  refine hQ _ _ rfl rfl rfl rfl kE ?_
  simpa only [St.cells, hc, World.setCells, Nat.reduceAdd] using e1

set_option maxRecDepth 100000 in
set_option maxHeartbeats 4000000 in
theorem t33_goF (g n cap r v off : Nat) (R : Nat → Nat) (_s : St) (W : World) (Q : Exit → Act → World → Prop) (p l : Nat) (c1 c12 c13 c14 c15 c16 c17 c18 c19 c20 c21 c22 c23 c24 c25 c26 c27 c28 c29 c30 c31 c32 c33 c34 c35 c36 c37 c38 c39 c40 c41 c42 c43 c44 c45 c46 c47 c48 c49 c50 c51 c52 c53 c54 c55 c56 c57 c58 c59 c60 c61 c62 c63 c64 c65 c66 c67 c68 c69 c70 c71 c72 c73 c74 c75 c76 c77 c78 c79 c80 c81 c82 c83 c84 c85 c86 c87 c88 c89 c90 c91 c92 c93 c94 c95 c96 c97 c98 c99 c100 c101 c102 c103 c104 c105 c106 c107 c108 c109 c110 c111 c112 c113 c114 c115 c116 c117 c118 c119 c120 c121 c122 c123 c124 c125 c126 c127 c128 c129 c130 c131 c132 c133 c134 c135 c136 c137 c138 : Value) (hp : Pdu W g n R) (hlt : p + l ≤ 65535) (hQ : ∀ u12 u13 u14 u15 u16 u17 u18 u19 u20 u21 u22 u23 u24 u25 u26 u27 u28 u29 u30 u31 u32 u33 u34 u35 u36 u37 u38 u39 u40 u41 u42 u43 u44 u45 u46 u47 u48 u49 u50 u51 u52 u53 u54 u55 u56 u57 u58 u59 u60 u61 u62 u63 u64 u65 u66 u67 u68 u69 u70 u71 u72 u73 u74 u75 u76 u77 u78 u79 u80 u81 u82 u83 u84 u85 u86 u87 u88 u89 u90 u91 u92 u93 u94 u95 u96 u97 u98 u99 u100 u101 u102 u103 u104 u105 u106 u107 u108 u109 u110 u111 u112 u113 u114 u115 u116 u117 u118 u119 u120 u121 u122 u123 u124 u125 u126 u127 u128 u129 u130 u131 u132 u133 u134 u135 u136 u137 u138 : Value, Q .normal ⟨List.toArray (.slice (some ⟨g, 0, none⟩) n cap :: c1 :: .pointer (some ⟨r, 0, none⟩) :: .bool false :: .int .i64 0 :: .pointer (some ⟨v, 0, none⟩) :: .bool false :: .int .i64 ((p + l : Nat) : Int) :: .int .i64 (n : Int) :: .int .u8 (R off : Int) :: .int .i64 (p : Int) :: .int .i64 (l : Int) :: u12 :: u13 :: u14 :: u15 :: u16 :: u17 :: u18 :: u19 :: u20 :: u21 :: u22 :: u23 :: u24 :: u25 :: u26 :: u27 :: u28 :: u29 :: u30 :: u31 :: u32 :: u33 :: u34 :: u35 :: u36 :: u37 :: u38 :: u39 :: u40 :: u41 :: u42 :: u43 :: u44 :: u45 :: u46 :: u47 :: u48 :: u49 :: u50 :: u51 :: u52 :: u53 :: u54 :: u55 :: u56 :: u57 :: u58 :: u59 :: u60 :: u61 :: u62 :: u63 :: u64 :: u65 :: u66 :: u67 :: u68 :: u69 :: u70 :: u71 :: u72 :: u73 :: u74 :: u75 :: u76 :: u77 :: u78 :: u79 :: u80 :: u81 :: u82 :: u83 :: u84 :: u85 :: u86 :: u87 :: u88 :: u89 :: u90 :: u91 :: u92 :: u93 :: u94 :: u95 :: u96 :: u97 :: u98 :: u99 :: u100 :: u101 :: u102 :: u103 :: u104 :: u105 :: u106 :: u107 :: u108 :: u109 :: u110 :: u111 :: u112 :: u113 :: u114 :: u115 :: u116 :: u117 :: u118 :: u119 :: u120 :: u121 :: u122 :: u123 :: u124 :: u125 :: u126 :: u127 :: u128 :: u129 :: u130 :: u131 :: u132 :: u133 :: u134 :: u135 :: u136 :: u137 :: u138 :: []), []⟩ W) :
    Code.wp Ybaf.prog t33 Q ⟨List.toArray (.slice (some ⟨g, 0, none⟩) n cap :: c1 :: .pointer (some ⟨r, 0, none⟩) :: .bool false :: .int .i64 0 :: .pointer (some ⟨v, 0, none⟩) :: .bool false :: .int .i64 (off : Int) :: .int .i64 (n : Int) :: .int .u8 (R off : Int) :: .int .i64 (p : Int) :: .int .i64 (l : Int) :: c12 :: c13 :: c14 :: c15 :: c16 :: c17 :: c18 :: c19 :: c20 :: c21 :: c22 :: c23 :: c24 :: c25 :: c26 :: c27 :: c28 :: c29 :: c30 :: c31 :: c32 :: c33 :: c34 :: c35 :: c36 :: c37 :: c38 :: c39 :: c40 :: c41 :: c42 :: c43 :: c44 :: c45 :: c46 :: c47 :: c48 :: c49 :: c50 :: c51 :: c52 :: c53 :: c54 :: c55 :: c56 :: c57 :: c58 :: c59 :: c60 :: c61 :: c62 :: c63 :: c64 :: c65 :: c66 :: c67 :: c68 :: c69 :: c70 :: c71 :: c72 :: c73 :: c74 :: c75 :: c76 :: c77 :: c78 :: c79 :: c80 :: c81 :: c82 :: c83 :: c84 :: c85 :: c86 :: c87 :: c88 :: c89 :: c90 :: c91 :: c92 :: c93 :: c94 :: c95 :: c96 :: c97 :: c98 :: c99 :: c100 :: c101 :: c102 :: c103 :: c104 :: c105 :: c106 :: c107 :: c108 :: c109 :: c110 :: c111 :: c112 :: c113 :: c114 :: c115 :: c116 :: c117 :: c118 :: c119 :: c120 :: c121 :: c122 :: c123 :: c124 :: c125 :: c126 :: c127 :: c128 :: c129 :: c130 :: c131 :: c132 :: c133 :: c134 :: c135 :: c136 :: c137 :: c138 :: []), []⟩ W := by
  have hl := hp.len
  have e2 : ((p + l : Nat) : Int) = (p : Int) + l := by omega
  rw [e2] at hQ
  clear e2
  clear hp
  conv => arg 2; whnf
  go_wp2_with fail
  first | done | exact hQ _ _ _ _ _ _ _ _ _ _ _ _ _ _ _ _ _ _ _ _ _ _ _ _ _ _ _ _ _ _ _ _ _ _ _ _ _ _ _ _ _ _ _ _ _ _ _ _ _ _ _ _ _ _ _ _ _ _ _ _ _ _ _ _ _ _ _ _ _ _ _ _ _ _ _ _ _ _ _ _ _ _ _ _ _ _ _ _ _ _ _ _ _ _ _ _ _ _ _ _ _ _ _ _ _ _ _ _ _ _ _ _ _ _ _ _ _ _ _ _ _ _ _ _ _ _ _

set_option maxRecDepth 100000 in
set_option maxHeartbeats 4000000 in
theorem t33_goT (g n cap r v off : Nat) (R : Nat → Nat) (s : St) (W : World) (Q : Exit → Act → World → Prop) (p l : Nat) (c1 c12 c13 c14 c15 c16 c17 c18 c19 c20 c21 c22 c23 c24 c25 c26 c27 c28 c29 c30 c31 c32 c33 c34 c35 c36 c37 c38 c39 c40 c41 c42 c43 c44 c45 c46 c47 c48 c49 c50 c51 c52 c53 c54 c55 c56 c57 c58 c59 c60 c61 c62 c63 c64 c65 c66 c67 c68 c69 c70 c71 c72 c73 c74 c75 c76 c77 c78 c79 c80 c81 c82 c83 c84 c85 c86 c87 c88 c89 c90 c91 c92 c93 c94 c95 c96 c97 c98 c99 c100 c101 c102 c103 c104 c105 c106 c107 c108 c109 c110 c111 c112 c113 c114 c115 c116 c117 c118 c119 c120 c121 c122 c123 c124 c125 c126 c127 c128 c129 c130 c131 c132 c133 c134 c135 c136 c137 c138 : Value) (hp : Pdu W g n R) (bv : Box W v s.cells) (hlt : p + l ≤ 65535) (hc : s.hc = false) (hQ : ∀ u12 u13 u14 u15 u16 u17 u18 u19 u20 u21 u22 u23 u24 u25 u26 u27 u28 u29 u30 u31 u32 u33 u34 u35 u36 u37 u38 u39 u40 u41 u42 u43 u44 u45 u46 u47 u48 u49 u50 u51 u52 u53 u54 u55 u56 u57 u58 u59 u60 u61 u62 u63 u64 u65 u66 u67 u68 u69 u70 u71 u72 u73 u74 u75 u76 u77 u78 u79 u80 u81 u82 u83 u84 u85 u86 u87 u88 u89 u90 u91 u92 u93 u94 u95 u96 u97 u98 u99 u100 u101 u102 u103 u104 u105 u106 u107 u108 u109 u110 u111 u112 u113 u114 u115 u116 u117 u118 u119 u120 u121 u122 u123 u124 u125 u126 u127 u128 u129 u130 u131 u132 u133 u134 u135 u136 u137 u138 : Value, Q .normal ⟨List.toArray (.slice (some ⟨g, 0, none⟩) n cap :: c1 :: .pointer (some ⟨r, 0, none⟩) :: .bool false :: .int .i64 0 :: .pointer (some ⟨v, 0, none⟩) :: .bool true :: .int .i64 ((p + l : Nat) : Int) :: .int .i64 (n : Int) :: .int .u8 (R off : Int) :: .int .i64 (p : Int) :: .int .i64 (l : Int) :: u12 :: u13 :: u14 :: u15 :: u16 :: u17 :: u18 :: u19 :: u20 :: u21 :: u22 :: u23 :: u24 :: u25 :: u26 :: u27 :: u28 :: u29 :: u30 :: u31 :: u32 :: u33 :: u34 :: u35 :: u36 :: u37 :: u38 :: u39 :: u40 :: u41 :: u42 :: u43 :: u44 :: u45 :: u46 :: u47 :: u48 :: u49 :: u50 :: u51 :: u52 :: u53 :: u54 :: u55 :: u56 :: u57 :: u58 :: u59 :: u60 :: u61 :: u62 :: u63 :: u64 :: u65 :: u66 :: u67 :: u68 :: u69 :: u70 :: u71 :: u72 :: u73 :: u74 :: u75 :: u76 :: u77 :: u78 :: u79 :: u80 :: u81 :: u82 :: u83 :: u84 :: u85 :: u86 :: u87 :: u88 :: u89 :: u90 :: u91 :: u92 :: u93 :: u94 :: u95 :: u96 :: u97 :: u98 :: u99 :: u100 :: u101 :: u102 :: u103 :: u104 :: u105 :: u106 :: u107 :: u108 :: u109 :: u110 :: u111 :: u112 :: u113 :: u114 :: u115 :: u116 :: u117 :: u118 :: u119 :: u120 :: u121 :: u122 :: u123 :: u124 :: u125 :: u126 :: u127 :: u128 :: u129 :: u130 :: u131 :: u132 :: u133 :: u134 :: u135 :: u136 :: u137 :: u138 :: []), []⟩ W) :
    Code.wp Ybaf.prog t33 Q ⟨List.toArray (.slice (some ⟨g, 0, none⟩) n cap :: c1 :: .pointer (some ⟨r, 0, none⟩) :: .bool false :: .int .i64 0 :: .pointer (some ⟨v, 0, none⟩) :: .bool true :: .int .i64 (off : Int) :: .int .i64 (n : Int) :: .int .u8 (R off : Int) :: .int .i64 (p : Int) :: .int .i64 (l : Int) :: c12 :: c13 :: c14 :: c15 :: c16 :: c17 :: c18 :: c19 :: c20 :: c21 :: c22 :: c23 :: c24 :: c25 :: c26 :: c27 :: c28 :: c29 :: c30 :: c31 :: c32 :: c33 :: c34 :: c35 :: c36 :: c37 :: c38 :: c39 :: c40 :: c41 :: c42 :: c43 :: c44 :: c45 :: c46 :: c47 :: c48 :: c49 :: c50 :: c51 :: c52 :: c53 :: c54 :: c55 :: c56 :: c57 :: c58 :: c59 :: c60 :: c61 :: c62 :: c63 :: c64 :: c65 :: c66 :: c67 :: c68 :: c69 :: c70 :: c71 :: c72 :: c73 :: c74 :: c75 :: c76 :: c77 :: c78 :: c79 :: c80 :: c81 :: c82 :: c83 :: c84 :: c85 :: c86 :: c87 :: c88 :: c89 :: c90 :: c91 :: c92 :: c93 :: c94 :: c95 :: c96 :: c97 :: c98 :: c99 :: c100 :: c101 :: c102 :: c103 :: c104 :: c105 :: c106 :: c107 :: c108 :: c109 :: c110 :: c111 :: c112 :: c113 :: c114 :: c115 :: c116 :: c117 :: c118 :: c119 :: c120 :: c121 :: c122 :: c123 :: c124 :: c125 :: c126 :: c127 :: c128 :: c129 :: c130 :: c131 :: c132 :: c133 :: c134 :: c135 :: c136 :: c137 :: c138 :: []), []⟩ W := by
  have hl := hp.len
  have e2 : ((p + l : Nat) : Int) = (p : Int) + l := by omega
  rw [e2] at hQ
  clear e2
  have v6 := bv.cell 6 _ rfl
  rw [hc] at v6
  clear hp bv
  conv => arg 2; whnf
  go_wp2_with fail
  first | done | exact hQ _ _ _ _ _ _ _ _ _ _ _ _ _ _ _ _ _ _ _ _ _ _ _ _ _ _ _ _ _ _ _ _ _ _ _ _ _ _ _ _ _ _ _ _ _ _ _ _ _ _ _ _ _ _ _ _ _ _ _ _ _ _ _ _ _ _ _ _ _ _ _ _ _ _ _ _ _ _ _ _ _ _ _ _ _ _ _ _ _ _ _ _ _ _ _ _ _ _ _ _ _ _ _ _ _ _ _ _ _ _ _ _ _ _ _ _ _ _ _ _ _ _ _ _ _ _ _

set_option maxRecDepth 100000 in
set_option maxHeartbeats 4000000 in
theorem sB_cell (g n cap r v off : Nat) (R : Nat → Nat) (s : St) (W : World) (Q : Exit → Act → World → Prop) (p : Nat) (c1 c12 c13 c14 c15 c16 c17 c18 c19 c20 c21 c22 c23 c24 c25 c26 c27 c28 c29 c30 c31 c32 c33 c34 c35 c36 c37 c38 c39 c40 c41 c42 c43 c44 c45 c46 c47 c48 c49 c50 c51 c52 c53 c54 c55 c56 c57 c58 c59 c60 c61 c62 c63 c64 c65 c66 c67 c68 c69 c70 c71 c72 c73 c74 c75 c76 c77 c78 c79 c80 c81 c82 c83 c84 c85 c86 c87 c88 c89 c90 c91 c92 c93 c94 c95 c96 c97 c98 c99 c100 c101 c102 c103 c104 c105 c106 c107 c108 c109 c110 c111 c112 c113 c114 c115 c116 c117 c118 c119 c120 c121 c122 c123 c124 c125 c126 c127 c128 c129 c130 c131 c132 c133 c134 c135 c136 c137 c138 : Value) (hp : Pdu W g n R) (b1 : Box W r St.zero.cells) (bv : Box W v s.cells) (h2 : p + 8 ≤ n) (q4 : ((R off : Int) == 4) = false) (q8 : ((R off : Int) == 8) = true) (hc : s.hc = false) (hcap : n ≤ cap) (hZ : Calls Ybaf.prog 19 #[.slice (some ⟨g, p, none⟩) (8 : Nat) (cap - p), .int .i64 (p : Int)] W (Zcelled (fun j => R (p + j)) p W)) (i : Nat) (hbd : badDig (R p) (R (p + 1)) (R (p + 2)) = some i) (hQ : Fails r (p + octet i) Q W) :
    Code.wp Ybaf.prog s20 Q ⟨List.toArray (.slice (some ⟨g, 0, none⟩) n cap :: c1 :: .pointer (some ⟨r, 0, none⟩) :: .bool false :: .int .i64 0 :: .pointer (some ⟨v, 0, none⟩) :: .bool s.hb :: .int .i64 (off : Int) :: .int .i64 (n : Int) :: .int .u8 (R off : Int) :: .int .i64 (p : Int) :: .int .i64 8 :: c12 :: c13 :: c14 :: c15 :: c16 :: c17 :: c18 :: c19 :: c20 :: c21 :: c22 :: c23 :: c24 :: c25 :: c26 :: c27 :: c28 :: c29 :: c30 :: c31 :: c32 :: c33 :: c34 :: c35 :: c36 :: c37 :: c38 :: c39 :: c40 :: c41 :: c42 :: c43 :: c44 :: c45 :: c46 :: c47 :: c48 :: c49 :: c50 :: c51 :: c52 :: c53 :: c54 :: c55 :: c56 :: c57 :: c58 :: c59 :: c60 :: c61 :: c62 :: c63 :: c64 :: c65 :: c66 :: c67 :: c68 :: c69 :: c70 :: c71 :: c72 :: c73 :: c74 :: c75 :: c76 :: c77 :: c78 :: c79 :: c80 :: c81 :: c82 :: c83 :: c84 :: c85 :: c86 :: c87 :: c88 :: c89 :: c90 :: c91 :: c92 :: c93 :: c94 :: c95 :: c96 :: c97 :: c98 :: c99 :: c100 :: c101 :: c102 :: c103 :: c104 :: c105 :: c106 :: c107 :: c108 :: c109 :: c110 :: c111 :: c112 :: c113 :: c114 :: c115 :: c116 :: c117 :: c118 :: c119 :: c120 :: c121 :: c122 :: c123 :: c124 :: c125 :: c126 :: c127 :: c128 :: c129 :: c130 :: c131 :: c132 :: c133 :: c134 :: c135 :: c136 :: c137 :: c138 :: []), []⟩ W := by
  have hl := hp.len
  have v6 := bv.cell 6 _ rfl
  rw [hc] at v6
  have hp1 : (p : Int) ≤ cap := by omega
  have hp8 : (p : Int) + 8 ≤ cap := by omega
  clear hp bv
  conv => arg 2; whnf
  go_wp2_with fail
  refine hZ.mono ?_
  rintro e U ⟨he, bU⟩
  have hbd' : badDig ((fun j => R (p + j)) 0) ((fun j => R (p + j)) 1) ((fun j => R (p + j)) 2) = some i := hbd
  rw [hbd'] at he
  subst he
  have d1 := (b1.below bU).alloc (.cells #[.string ⟨#[]⟩, .string ⟨#[]⟩, .int .u16 0, .int .u8 0, .int .u16 0] 38)
  have u0 := d1.cell 0 _ rfl
  have u1 := d1.cell 1 _ rfl
  have u2 := d1.cell 2 _ rfl
  have u3 := d1.cell 3 _ rfl
  have u4 := d1.cell 4 _ rfl
  have u5 := d1.cell 5 _ rfl
  have u6 := d1.cell 6 _ rfl
  have uf := d1.frz
  simp only [St.zero, Cl.zero] at u0 u1 u2 u3 u4 u5 u6
  have e1 := d1.set St.zero.cells rfl
  have kE := Kept.setCells (S := (· = r)) r St.zero.cells 0 (Kept.alloc (Kept.ofBelow bU _) (.cells #[.string ⟨#[]⟩, .string ⟨#[]⟩, .int .u16 0, .int .u8 0, .int .u16 0] 38)) (.inl rfl)
  clear hZ bU b1 d1
  go_wp2_with fail
  exact hQ _ _ rfl rfl rfl rfl kE e1

set_option maxRecDepth 100000 in
set_option maxHeartbeats 4000000 in
theorem sB_ok (g n cap r v off : Nat) (R : Nat → Nat) (s : St) (W : World) (Q : Exit → Act → World → Prop) (p : Nat) (c1 c12 c13 c14 c15 c16 c17 c18 c19 c20 c21 c22 c23 c24 c25 c26 c27 c28 c29 c30 c31 c32 c33 c34 c35 c36 c37 c38 c39 c40 c41 c42 c43 c44 c45 c46 c47 c48 c49 c50 c51 c52 c53 c54 c55 c56 c57 c58 c59 c60 c61 c62 c63 c64 c65 c66 c67 c68 c69 c70 c71 c72 c73 c74 c75 c76 c77 c78 c79 c80 c81 c82 c83 c84 c85 c86 c87 c88 c89 c90 c91 c92 c93 c94 c95 c96 c97 c98 c99 c100 c101 c102 c103 c104 c105 c106 c107 c108 c109 c110 c111 c112 c113 c114 c115 c116 c117 c118 c119 c120 c121 c122 c123 c124 c125 c126 c127 c128 c129 c130 c131 c132 c133 c134 c135 c136 c137 c138 : Value) (hp : Pdu W g n R) (bv : Box W v s.cells) (h2 : p + 8 ≤ n) (q4 : ((R off : Int) == 4) = false) (q8 : ((R off : Int) == 8) = true) (hc : s.hc = false) (hcap : n ≤ cap) (hZ : Calls Ybaf.prog 19 #[.slice (some ⟨g, p, none⟩) (8 : Nat) (cap - p), .int .i64 (p : Int)] W (Zcelled (fun j => R (p + j)) p W)) (hbd : badDig (R p) (R (p + 1)) (R (p + 2)) = none) (hQ : ∀ u12 u13 u14 u15 u16 u17 u18 u19 u20 u21 u22 u23 u24 u25 u26 u27 u28 u29 u30 u31 u32 u33 u34 u35 u36 u37 u38 u39 u40 u41 u42 u43 u44 u45 u46 u47 u48 u49 u50 u51 u52 u53 u54 u55 u56 u57 u58 u59 u60 u61 u62 u63 u64 u65 u66 u67 u68 u69 u70 u71 u72 u73 u74 u75 u76 u77 u78 u79 u80 u81 u82 u83 u84 u85 u86 u87 u88 u89 u90 u91 u92 u93 u94 u95 u96 u97 u98 u99 u100 u101 u102 u103 u104 u105 u106 u107 u108 u109 u110 u111 u112 u113 u114 u115 u116 u117 u118 u119 u120 u121 u122 u123 u124 u125 u126 u127 u128 u129 u130 u131 u132 u133 u134 u135 u136 u137 u138 : Value, ∀ W' : World, Kept (· = v) W W' → Box W' v ({ s with hc := true, cl := Cl.of fun j => R (p + j) } : St).cells → Q .normal ⟨List.toArray (.slice (some ⟨g, 0, none⟩) n cap :: c1 :: .pointer (some ⟨r, 0, none⟩) :: .bool false :: .int .i64 0 :: .pointer (some ⟨v, 0, none⟩) :: .bool s.hb :: .int .i64 (off : Int) :: .int .i64 (n : Int) :: .int .u8 (R off : Int) :: .int .i64 (p : Int) :: .int .i64 8 :: u12 :: u13 :: u14 :: u15 :: u16 :: u17 :: u18 :: u19 :: u20 :: u21 :: u22 :: u23 :: u24 :: u25 :: u26 :: u27 :: u28 :: u29 :: u30 :: u31 :: u32 :: u33 :: u34 :: u35 :: u36 :: u37 :: u38 :: u39 :: u40 :: u41 :: u42 :: u43 :: u44 :: u45 :: u46 :: u47 :: u48 :: u49 :: u50 :: u51 :: u52 :: u53 :: u54 :: u55 :: u56 :: u57 :: u58 :: u59 :: u60 :: u61 :: u62 :: u63 :: u64 :: u65 :: u66 :: u67 :: u68 :: u69 :: u70 :: u71 :: u72 :: u73 :: u74 :: u75 :: u76 :: u77 :: u78 :: u79 :: u80 :: u81 :: u82 :: u83 :: u84 :: u85 :: u86 :: u87 :: u88 :: u89 :: u90 :: u91 :: u92 :: u93 :: u94 :: u95 :: u96 :: u97 :: u98 :: u99 :: u100 :: u101 :: u102 :: u103 :: u104 :: u105 :: u106 :: u107 :: u108 :: u109 :: u110 :: u111 :: u112 :: u113 :: u114 :: u115 :: u116 :: u117 :: u118 :: u119 :: u120 :: u121 :: u122 :: u123 :: u124 :: u125 :: u126 :: u127 :: u128 :: u129 :: u130 :: u131 :: u132 :: u133 :: u134 :: u135 :: u136 :: u137 :: u138 :: []), []⟩ W') :
    Code.wp Ybaf.prog s20 Q ⟨List.toArray (.slice (some ⟨g, 0, none⟩) n cap :: c1 :: .pointer (some ⟨r, 0, none⟩) :: .bool false :: .int .i64 0 :: .pointer (some ⟨v, 0, none⟩) :: .bool s.hb :: .int .i64 (off : Int) :: .int .i64 (n : Int) :: .int .u8 (R off : Int) :: .int .i64 (p : Int) :: .int .i64 8 :: c12 :: c13 :: c14 :: c15 :: c16 :: c17 :: c18 :: c19 :: c20 :: c21 :: c22 :: c23 :: c24 :: c25 :: c26 :: c27 :: c28 :: c29 :: c30 :: c31 :: c32 :: c33 :: c34 :: c35 :: c36 :: c37 :: c38 :: c39 :: c40 :: c41 :: c42 :: c43 :: c44 :: c45 :: c46 :: c47 :: c48 :: c49 :: c50 :: c51 :: c52 :: c53 :: c54 :: c55 :: c56 :: c57 :: c58 :: c59 :: c60 :: c61 :: c62 :: c63 :: c64 :: c65 :: c66 :: c67 :: c68 :: c69 :: c70 :: c71 :: c72 :: c73 :: c74 :: c75 :: c76 :: c77 :: c78 :: c79 :: c80 :: c81 :: c82 :: c83 :: c84 :: c85 :: c86 :: c87 :: c88 :: c89 :: c90 :: c91 :: c92 :: c93 :: c94 :: c95 :: c96 :: c97 :: c98 :: c99 :: c100 :: c101 :: c102 :: c103 :: c104 :: c105 :: c106 :: c107 :: c108 :: c109 :: c110 :: c111 :: c112 :: c113 :: c114 :: c115 :: c116 :: c117 :: c118 :: c119 :: c120 :: c121 :: c122 :: c123 :: c124 :: c125 :: c126 :: c127 :: c128 :: c129 :: c130 :: c131 :: c132 :: c133 :: c134 :: c135 :: c136 :: c137 :: c138 :: []), []⟩ W := by
  have hl := hp.len
  have v6 := bv.cell 6 _ rfl
  rw [hc] at v6
  have hp1 : (p : Int) ≤ cap := by omega
  have hp8 : (p : Int) + 8 ≤ cap := by omega
  clear hp
  conv => arg 2; whnf
  go_wp2_with fail
  refine hZ.mono ?_
  rintro e U ⟨he, bU⟩
  obtain ⟨C, hC⟩ : ∃ C, C = Cl.of fun j => R (p + j) := ⟨_, rfl⟩
  have he' : e = .returned (.tuple #[.agg #[.string C.m1, .string C.m2, .int .u16 C.lac, .int .u8 C.rac, .int .u16 C.ci], .bool true, .int .i64 0]) := by
    have hbd' : badDig ((fun j => R (p + j)) 0) ((fun j => R (p + j)) 1) ((fun j => R (p + j)) 2) = none := hbd
    rw [hbd'] at he
    rw [hC]
    exact he
  subst he'
  rw [← hC] at hQ
  clear he hC
  have dv := (bv.below bU).alloc (.cells #[.string C.m1, .string C.m2, .int .u16 C.lac, .int .u8 C.rac, .int .u16 C.ci] 38)
  have cn := Box.new U #[.string C.m1, .string C.m2, .int .u16 C.lac, .int .u8 C.rac, .int .u16 C.ci] 38
  have w0 := cn.cell 0 _ rfl
  have w1 := cn.cell 1 _ rfl
  have w2 := cn.cell 2 _ rfl
  have w3 := cn.cell 3 _ rfl
  have w4 := cn.cell 4 _ rfl
  have dv1 := dv.cell 1 _ rfl
  have dv2 := dv.cell 2 _ rfl
  have dv3 := dv.cell 3 _ rfl
  have dv4 := dv.cell 4 _ rfl
  have dv5 := dv.cell 5 _ rfl
  have dv6 := dv.cell 6 _ rfl
  have dvf := dv.frz
  have ev := (((((dv.set1 1 (.string C.m1) (by simp [St.cells])).set1 2 (.string C.m2) (by simp [St.cells])).set1 3 (.int .u16 C.lac) (by simp [St.cells])).set1 4 (.int .u8 C.rac) (by simp [St.cells])).set1 5 (.int .u16 C.ci) (by simp [St.cells])).set1 6 (.bool true) (by simp [St.cells])
  have kE := Kept.setCell (S := (· = v)) (a := ⟨v, 6, none⟩) (Kept.setCells (S := (· = v)) v [.string C.m1, .string C.m2, .int .u16 C.lac, .int .u8 C.rac, .int .u16 C.ci] 1 (Kept.alloc (Kept.ofBelow bU _) (.cells #[.string C.m1, .string C.m2, .int .u16 C.lac, .int .u8 C.rac, .int .u16 C.ci] 38)) (.inl rfl)) (.inl rfl) (.bool true)
  simp only [World.setCells, Nat.reduceAdd] at kE
  clear hZ bU bv dv cn
  go_wp2_with fail
  exact hQ _ _ _ _ _ _ _ _ _ _ _ _ _ _ _ _ _ _ _ _ _ _ _ _ _ _ _ _ _ _ _ _ _ _ _ _ _ _ _ _ _ _ _ _ _ _ _ _ _ _ _ _ _ _ _ _ _ _ _ _ _ _ _ _ _ _ _ _ _ _ _ _ _ _ _ _ _ _ _ _ _ _ _ _ _ _ _ _ _ _ _ _ _ _ _ _ _ _ _ _ _ _ _ _ _ _ _ _ _ _ _ _ _ _ _ _ _ _ _ _ _ _ _ _ _ _ _ _ kE (by simpa [St.cells] using ev)
end Go.Proofs.YbulkcupaFmt
