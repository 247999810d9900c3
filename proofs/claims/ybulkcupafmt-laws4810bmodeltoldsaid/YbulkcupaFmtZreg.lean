/- By an AI agent. No person has read it.
   Two great regions of zzs4810bcell (function 19), each a declaration of its own. -/
import Derived.Test.YbulkcupaFmtCell
import Derived.BigRegion
namespace Go.Proofs.YbulkcupaFmt
open Go.RowKit Go.Extern.Stop Go.Stop Go.Extern

/-- The region of this number. -/
def regionOf (k : Nat) : Code → Option Code
  | .region i ops d => if i = k then some (.region i ops d) else none
  | .seq a b => match regionOf k a with
    | some c => some c
    | none => regionOf k b
  | .block _ c => regionOf k c
  | .loop c => regionOf k c
  | .scope c => regionOf k c
  | .cond _ a b => match regionOf k a with
    | some c => some c
    | none => regionOf k b
  | _ => none

noncomputable def reg1 : Code := ((Ybaf.f19.body.bind (regionOf 1)).getD .skip)

set_option maxRecDepth 100000 in
set_option maxHeartbeats 4000000 in
theorem reg1_runs (g p c : Nat) (x : Nat → Nat) (W : World) (c1 c2 c3 c4 c5 c6 c7 c8 c9 c10 c11 c12 c13 c14 c15 c16 c17 c18 c19 c20 c21 c22 c23 c24 c25 c26 c27 c28 c29 c30 c31 c32 c33 c34 c35 c36 c37 c38 c39 c40 c41 c42 c43 c44 c45 c46 c47 c48 c49 c50 c51 c52 c53 c54 c55 c56 c57 c58 c59 c60 c61 c62 c63 c64 c65 c66 c67 c68 c69 c70 c71 c72 c73 c74 c75 c76 c77 c78 c79 c80 c81 c82 c83 c84 c85 c86 c87 c88 c89 c90 c91 c92 c93 c94 c95 c96 c97 c98 c99 c100 c101 c102 c103 c104 c105 c106 c107 c108 c109 c110 c111 : Value) (K : Act → World → Prop) (gW : g < W.heap.size) (hc : ∀ j, j < 3 → W.cell? ⟨g, p + j, none⟩ = some (.int .u8 (x j : Int))) (hb : ∀ j, j < 3 → x j < 256)
    (hQ : ∀ u13 u14 u15 u16 u17 u18 u19 u20 u21 u22 u23 u24 u25 u26 u27 u28 u29 u30 u31 u32 u33 u34 u35 u36 u37 : Value, K ⟨(List.toArray (.slice (some ⟨g, p, none⟩) (8 : Nat) c :: c1 :: c2 :: c3 :: c4 :: c5 :: c6 :: .pointer (some ⟨W.heap.size, 0, none⟩) :: c8 :: c9 :: c10 :: c11 :: c12 :: u13 :: u14 :: u15 :: u16 :: u17 :: u18 :: u19 :: u20 :: u21 :: u22 :: u23 :: u24 :: u25 :: u26 :: u27 :: u28 :: u29 :: u30 :: u31 :: u32 :: u33 :: u34 :: u35 :: u36 :: u37 :: c38 :: c39 :: c40 :: c41 :: c42 :: c43 :: c44 :: c45 :: c46 :: c47 :: c48 :: c49 :: c50 :: c51 :: c52 :: c53 :: c54 :: c55 :: c56 :: c57 :: c58 :: c59 :: c60 :: c61 :: c62 :: c63 :: c64 :: c65 :: c66 :: c67 :: c68 :: c69 :: c70 :: c71 :: c72 :: c73 :: c74 :: c75 :: c76 :: c77 :: c78 :: c79 :: c80 :: c81 :: c82 :: c83 :: c84 :: c85 :: c86 :: c87 :: c88 :: c89 :: c90 :: c91 :: c92 :: c93 :: c94 :: c95 :: c96 :: c97 :: c98 :: c99 :: c100 :: c101 :: c102 :: c103 :: c104 :: c105 :: c106 :: c107 :: c108 :: c109 :: c110 :: c111 :: [])), []⟩ (W.alloc (.cells #[.int .u8 ((x 0 : Int) % 16), .int .u8 ((x 0 : Int) / 16), .int .u8 ((x 1 : Int) % 16), .int .u8 ((x 2 : Int) % 16), .int .u8 ((x 2 : Int) / 16), .int .u8 ((x 1 : Int) / 16)] 93)).drew) :
    Code.wp Ybaf.prog reg1 (Exit.then K fun _ _ _ => False) ⟨(List.toArray (.slice (some ⟨g, p, none⟩) (8 : Nat) c :: c1 :: c2 :: c3 :: c4 :: c5 :: c6 :: c7 :: c8 :: c9 :: c10 :: c11 :: c12 :: c13 :: c14 :: c15 :: c16 :: c17 :: c18 :: c19 :: c20 :: c21 :: c22 :: c23 :: c24 :: c25 :: c26 :: c27 :: c28 :: c29 :: c30 :: c31 :: c32 :: c33 :: c34 :: c35 :: c36 :: c37 :: c38 :: c39 :: c40 :: c41 :: c42 :: c43 :: c44 :: c45 :: c46 :: c47 :: c48 :: c49 :: c50 :: c51 :: c52 :: c53 :: c54 :: c55 :: c56 :: c57 :: c58 :: c59 :: c60 :: c61 :: c62 :: c63 :: c64 :: c65 :: c66 :: c67 :: c68 :: c69 :: c70 :: c71 :: c72 :: c73 :: c74 :: c75 :: c76 :: c77 :: c78 :: c79 :: c80 :: c81 :: c82 :: c83 :: c84 :: c85 :: c86 :: c87 :: c88 :: c89 :: c90 :: c91 :: c92 :: c93 :: c94 :: c95 :: c96 :: c97 :: c98 :: c99 :: c100 :: c101 :: c102 :: c103 :: c104 :: c105 :: c106 :: c107 :: c108 :: c109 :: c110 :: c111 :: [])), []⟩ W := by
  have c0 := hc 0 (by omega)
  have c1 := hc 1 (by omega)
  have c2 := hc 2 (by omega)
  have b0 := hb 0 (by omega)
  have b1 := hb 1 (by omega)
  have b2 := hb 2 (by omega)
  have a0 := and15 _ b0
  have a1 := and15 _ b1
  have a2 := and15 _ b2
  rw [Nat.add_zero] at c0
  have bA : Below W.heap.size W (W.alloc (.cells #[.int .u8 0, .int .u8 0, .int .u8 0, .int .u8 0, .int .u8 0, .int .u8 0] 93)) := by go_grown
  have k0 := (bA.cell (p := ⟨g, p, none⟩) gW).trans c0
  have k1 := (bA.cell (p := ⟨g, p + 1, none⟩) gW).trans c1
  have k2 := (bA.cell (p := ⟨g, p + 2, none⟩) gW).trans c2
  clear hc hb bA
  conv => arg 2; whnf
  go_big_region
  exact hQ _ _ _ _ _ _ _ _ _ _ _ _ _ _ _ _ _ _ _ _ _ _ _ _ _

noncomputable def reg15 : Code := ((Ybaf.f19.body.bind (regionOf 15)).getD .skip)

set_option maxRecDepth 100000 in
set_option maxHeartbeats 4000000 in
theorem reg15_runs (g p c r mb m mcap : Nat) (mcc : ByteArray) (f : Nat → Nat) (x : Nat → Nat) (E : World) (c1 c2 c3 c5 c6 c7 c8 c9 c10 c13 c14 c15 c16 c17 c18 c19 c20 c21 c22 c23 c24 c25 c26 c27 c28 c29 c30 c31 c32 c33 c34 c35 c36 c37 c38 c39 c40 c41 c42 c43 c44 c45 c46 c47 c48 c49 c50 c51 c52 c53 c54 c55 c56 c57 c58 c59 c60 c61 c62 c63 c64 c65 c66 c67 c68 c69 c70 c71 c72 c73 c74 c75 c76 c77 c78 c79 c80 c81 c82 c83 c84 c85 c86 c87 c88 c89 c90 c91 c92 c93 c94 c95 c96 c97 c98 c99 c100 c101 c102 c103 c104 c105 c106 c107 c108 c109 c110 c111 : Value) (K : Act → World → Prop) (hc : ∀ j, j < 8 → E.cell? ⟨g, p + j, none⟩ = some (.int .u8 (x j : Int))) (hb : ∀ j, j < 8 → x j < 256)
    (hf : ∀ j, j < m → f j < 256) (hm : ∀ j, j < m → E.cell? ⟨mb, j, none⟩ = some (.int .u8 ((f j : Nat) : Int))) (rE : Box E r [.string ⟨#[]⟩, .string ⟨#[]⟩, .int .u16 0, .int .u8 0, .int .u16 0])
    (hQ : ∀ u83 u84 u85 u86 u87 u88 u89 u90 u91 u92 u93 u94 u95 u96 u97 u98 u99 u100 u101 u102 u103 u104 u105 u106 u107 u108 u109 u110 u111 : Value, K ⟨(List.toArray (.slice (some ⟨g, p, none⟩) (8 : Nat) c :: c1 :: c2 :: c3 :: .pointer (some ⟨r, 0, none⟩) :: .bool true :: .int .i64 0 :: c7 :: c8 :: c9 :: c10 :: .string mcc :: .slice (some ⟨mb, 0, none⟩) m mcap :: c13 :: c14 :: c15 :: c16 :: c17 :: c18 :: c19 :: c20 :: c21 :: c22 :: c23 :: c24 :: c25 :: c26 :: c27 :: c28 :: c29 :: c30 :: c31 :: c32 :: c33 :: c34 :: c35 :: c36 :: c37 :: c38 :: c39 :: c40 :: c41 :: c42 :: c43 :: c44 :: c45 :: c46 :: c47 :: c48 :: c49 :: c50 :: c51 :: c52 :: c53 :: c54 :: c55 :: c56 :: c57 :: c58 :: c59 :: c60 :: c61 :: c62 :: c63 :: c64 :: c65 :: c66 :: c67 :: c68 :: c69 :: c70 :: c71 :: c72 :: c73 :: c74 :: c75 :: c76 :: c77 :: c78 :: c79 :: c80 :: c81 :: c82 :: u83 :: u84 :: u85 :: u86 :: u87 :: u88 :: u89 :: u90 :: u91 :: u92 :: u93 :: u94 :: u95 :: u96 :: u97 :: u98 :: u99 :: u100 :: u101 :: u102 :: u103 :: u104 :: u105 :: u106 :: u107 :: u108 :: u109 :: u110 :: u111 :: [])), []⟩ (E.setCells r 0 [.string mcc, .string (strOf m f), .int .u16 ((x 3 : Int) * 256 + x 4), .int .u8 (x 5 : Int), .int .u16 ((x 6 : Int) * 256 + x 7)]).drew) :
    Code.wp Ybaf.prog reg15 (Exit.then K fun _ _ _ => False) ⟨(List.toArray (.slice (some ⟨g, p, none⟩) (8 : Nat) c :: c1 :: c2 :: c3 :: .pointer (some ⟨r, 0, none⟩) :: c5 :: c6 :: c7 :: c8 :: c9 :: c10 :: .string mcc :: .slice (some ⟨mb, 0, none⟩) m mcap :: c13 :: c14 :: c15 :: c16 :: c17 :: c18 :: c19 :: c20 :: c21 :: c22 :: c23 :: c24 :: c25 :: c26 :: c27 :: c28 :: c29 :: c30 :: c31 :: c32 :: c33 :: c34 :: c35 :: c36 :: c37 :: c38 :: c39 :: c40 :: c41 :: c42 :: c43 :: c44 :: c45 :: c46 :: c47 :: c48 :: c49 :: c50 :: c51 :: c52 :: c53 :: c54 :: c55 :: c56 :: c57 :: c58 :: c59 :: c60 :: c61 :: c62 :: c63 :: c64 :: c65 :: c66 :: c67 :: c68 :: c69 :: c70 :: c71 :: c72 :: c73 :: c74 :: c75 :: c76 :: c77 :: c78 :: c79 :: c80 :: c81 :: c82 :: c83 :: c84 :: c85 :: c86 :: c87 :: c88 :: c89 :: c90 :: c91 :: c92 :: c93 :: c94 :: c95 :: c96 :: c97 :: c98 :: c99 :: c100 :: c101 :: c102 :: c103 :: c104 :: c105 :: c106 :: c107 :: c108 :: c109 :: c110 :: c111 :: [])), []⟩ E := by
  have hcv := back30 mb m mcap f E hf hm
  have hcv2 := back30 mb m mcap f E.drew hf hm
  have g3 := hc 3 (by omega)
  have g4 := hc 4 (by omega)
  have g5 := hc 5 (by omega)
  have g6 := hc 6 (by omega)
  have g7 := hc 7 (by omega)
  have q34 := or_u16 (x 3) (x 4) (hb 3 (by omega)) (hb 4 (by omega))
  have q67 := or_u16 (x 6) (x 7) (hb 6 (by omega)) (hb 7 (by omega))
  have q3 := hb 3 (by omega)
  have q6 := hb 6 (by omega)
  have q4 := hb 4 (by omega)
  have q7 := hb 7 (by omega)
  have u0 := rE.cell 0 _ rfl
  have u1 := rE.cell 1 _ rfl
  have u2 := rE.cell 2 _ rfl
  have u3 := rE.cell 3 _ rfl
  have u4 := rE.cell 4 _ rfl
  have uf := rE.frz
  clear hc hb hf hm rE
  conv => arg 2; whnf
  go_big_region
  exact hQ _ _ _ _ _ _ _ _ _ _ _ _ _ _ _ _ _ _ _ _ _ _ _ _ _ _ _ _ _
end Go.Proofs.YbulkcupaFmt
