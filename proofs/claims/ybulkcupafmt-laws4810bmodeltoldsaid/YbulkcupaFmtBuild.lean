/- By an AI agent. No person has read it.
   zzs4810bbuild (function 7): it gives a row of octets, 130 an element at most. -/
import Derived.Test.YbulkcupaFmtBuildA
namespace Go.Proofs.YbulkcupaFmt
open Go.RowKit Go.Extern.Stop Go.Stop Go.Extern

structure ItemAt (W : World) (b o k num rn rc : Nat) (ra : Option Addr) (lg bd : Bool) : Prop where
  x0 : W.cell? ⟨b, o, none⟩ = some (.int .u8 (k : Int))
  x1 : W.cell? ⟨b, o + 1, none⟩ = some (.int .u16 (num : Int))
  x2 : W.cell? ⟨b, o + 2, none⟩ = some (.slice ra rn rc)
  x3 : W.cell? ⟨b, o + 3, none⟩ = some (.bool lg)
  x4 : W.cell? ⟨b, o + 4, none⟩ = some (.bool bd)
  hk : k < 256
  hn : num < 65536
  hrc : rn ≤ rc
  src : SrcOf W ra rn W.heap.size

/-- A slice of ZzS4810BIE that came in. -/
def Items (W : World) (a : Option Addr) (L : Nat) : Prop :=
  L = 0 ∨ ∃ b ob, a = some ⟨b, ob, none⟩ ∧ b < W.heap.size ∧ ∀ i, i < L → ∃ k num rn rc ra lg bd, ItemAt W b (ob + i * 5) k num rn rc ra lg bd

structure Mid7 (w : World) (L g n c i : Nat) (W : World) : Prop where
  il : i ≤ L
  own : OwnRow w.heap.size W g n c
  n1 : 1 ≤ n
  n2 : n ≤ 1 + 130 * i
  bel : Below w.heap.size w W

set_option maxRecDepth 100000 in
def Inv7 (w : World) (t : Nat) (a : Option Addr) (L C : Nat) (A : Act) (W : World) : Prop :=
  ∃ (g n c i : Nat), Mid7 w L g n c i W ∧ ∃ c2 c3 c4 u7 u8 u9 u10 u11 u12 u13 u14 u15 u16 u17 u18 u19 u20 u21 u22 u23 u24 u25 u26 u27 u28 u29 u30 u31 u32 u33 u34 u35 u36 u37 u38 u39 u40 u41 u42 u43 u44 u45 u46 u47 u48 u49 u50 u51 u52 u53 u54 u55 u56 u57 u58 u59 u60 u61 u62 u63 u64 u65 u66 u67 u68 u69 u70 u71 u72 u73 u74 u75 u76 u77 u78 u79 u80 u81 u82 u83 u84 u85 u86 u87 u88 u89 u90 u91 u92 u93 u94 u95 u96 u97 u98 u99 u100 u101 u102 u103 u104 u105 u106 u107 u108 u109 u110 u111 u112 u113 u114 u115 u116 u117 u118 u119 u120 u121 u122 u123 u124 u125 u126 u127 u128 u129 u130 u131 u132 u133 u134 u135 : Value, A = ⟨List.toArray (.int .u8 (t : Int) :: .slice a L C :: c2 :: c3 :: c4 :: .slice (some ⟨g, 0, none⟩) n c :: .int .i64 (i : Int) :: u7 :: u8 :: u9 :: u10 :: u11 :: u12 :: u13 :: u14 :: u15 :: u16 :: u17 :: u18 :: u19 :: u20 :: u21 :: u22 :: u23 :: u24 :: u25 :: u26 :: u27 :: u28 :: u29 :: u30 :: u31 :: u32 :: u33 :: u34 :: u35 :: u36 :: u37 :: u38 :: u39 :: u40 :: u41 :: u42 :: u43 :: u44 :: u45 :: u46 :: u47 :: u48 :: u49 :: u50 :: u51 :: u52 :: u53 :: u54 :: u55 :: u56 :: u57 :: u58 :: u59 :: u60 :: u61 :: u62 :: u63 :: u64 :: u65 :: u66 :: u67 :: u68 :: u69 :: u70 :: u71 :: u72 :: u73 :: u74 :: u75 :: u76 :: u77 :: u78 :: u79 :: u80 :: u81 :: u82 :: u83 :: u84 :: u85 :: u86 :: u87 :: u88 :: u89 :: u90 :: u91 :: u92 :: u93 :: u94 :: u95 :: u96 :: u97 :: u98 :: u99 :: u100 :: u101 :: u102 :: u103 :: u104 :: u105 :: u106 :: u107 :: u108 :: u109 :: u110 :: u111 :: u112 :: u113 :: u114 :: u115 :: u116 :: u117 :: u118 :: u119 :: u120 :: u121 :: u122 :: u123 :: u124 :: u125 :: u126 :: u127 :: u128 :: u129 :: u130 :: u131 :: u132 :: u133 :: u134 :: u135 :: []), []⟩

def mu7 (L : Nat) (a : Act) (_ : World) : Nat := L - (intOf (a.tmps[6]?.getD undef)).toNat

set_option maxRecDepth 100000 in
theorem round7 (w : World) (t : Nat) (a : Option Addr) (L C : Nat) (Q : Exit → Act → World → Prop) (hL : L ≤ 300) (hI : Items w a L)
    (hexit : ∀ g n c i W, Mid7 w L g n c i W → ∀ c2 c3 c4 u7 u8 u9 u10 u11 u12 u13 u14 u15 u16 u17 u18 u19 u20 u21 u22 u23 u24 u25 u26 u27 u28 u29 u30 u31 u32 u33 u34 u35 u36 u37 u38 u39 u40 u41 u42 u43 u44 u45 u46 u47 u48 u49 u50 u51 u52 u53 u54 u55 u56 u57 u58 u59 u60 u61 u62 u63 u64 u65 u66 u67 u68 u69 u70 u71 u72 u73 u74 u75 u76 u77 u78 u79 u80 u81 u82 u83 u84 u85 u86 u87 u88 u89 u90 u91 u92 u93 u94 u95 u96 u97 u98 u99 u100 u101 u102 u103 u104 u105 u106 u107 u108 u109 u110 u111 u112 u113 u114 u115 u116 u117 u118 u119 u120 u121 u122 u123 u124 u125 u126 u127 u128 u129 u130 u131 u132 u133 u134 u135 : Value, Q (.exit 0) ⟨List.toArray (.int .u8 (t : Int) :: .slice a L C :: c2 :: c3 :: c4 :: .slice (some ⟨g, 0, none⟩) n c :: .int .i64 (i : Int) :: u7 :: u8 :: u9 :: u10 :: u11 :: u12 :: u13 :: u14 :: u15 :: u16 :: u17 :: u18 :: u19 :: u20 :: u21 :: u22 :: u23 :: u24 :: u25 :: u26 :: u27 :: u28 :: u29 :: u30 :: u31 :: u32 :: u33 :: u34 :: u35 :: u36 :: u37 :: u38 :: u39 :: u40 :: u41 :: u42 :: u43 :: u44 :: u45 :: u46 :: u47 :: u48 :: u49 :: u50 :: u51 :: u52 :: u53 :: u54 :: u55 :: u56 :: u57 :: u58 :: u59 :: u60 :: u61 :: u62 :: u63 :: u64 :: u65 :: u66 :: u67 :: u68 :: u69 :: u70 :: u71 :: u72 :: u73 :: u74 :: u75 :: u76 :: u77 :: u78 :: u79 :: u80 :: u81 :: u82 :: u83 :: u84 :: u85 :: u86 :: u87 :: u88 :: u89 :: u90 :: u91 :: u92 :: u93 :: u94 :: u95 :: u96 :: u97 :: u98 :: u99 :: u100 :: u101 :: u102 :: u103 :: u104 :: u105 :: u106 :: u107 :: u108 :: u109 :: u110 :: u111 :: u112 :: u113 :: u114 :: u115 :: u116 :: u117 :: u118 :: u119 :: u120 :: u121 :: u122 :: u123 :: u124 :: u125 :: u126 :: u127 :: u128 :: u129 :: u130 :: u131 :: u132 :: u133 :: u134 :: u135 :: []), []⟩ W)
    (g n c i : Nat) (W : World) (m : Mid7 w L g n c i W) (c2 c3 c4 u7 u8 u9 u10 u11 u12 u13 u14 u15 u16 u17 u18 u19 u20 u21 u22 u23 u24 u25 u26 u27 u28 u29 u30 u31 u32 u33 u34 u35 u36 u37 u38 u39 u40 u41 u42 u43 u44 u45 u46 u47 u48 u49 u50 u51 u52 u53 u54 u55 u56 u57 u58 u59 u60 u61 u62 u63 u64 u65 u66 u67 u68 u69 u70 u71 u72 u73 u74 u75 u76 u77 u78 u79 u80 u81 u82 u83 u84 u85 u86 u87 u88 u89 u90 u91 u92 u93 u94 u95 u96 u97 u98 u99 u100 u101 u102 u103 u104 u105 u106 u107 u108 u109 u110 u111 u112 u113 u114 u115 u116 u117 u118 u119 u120 u121 u122 u123 u124 u125 u126 u127 u128 u129 u130 u131 u132 u133 u134 u135 : Value) :
    Code.wp Ybaf.prog body7 (Exit.then (fun A' W' => Inv7 w t a L C A' W' ∧ mu7 L A' W' < mu7 L ⟨List.toArray (.int .u8 (t : Int) :: .slice a L C :: c2 :: c3 :: c4 :: .slice (some ⟨g, 0, none⟩) n c :: .int .i64 (i : Int) :: u7 :: u8 :: u9 :: u10 :: u11 :: u12 :: u13 :: u14 :: u15 :: u16 :: u17 :: u18 :: u19 :: u20 :: u21 :: u22 :: u23 :: u24 :: u25 :: u26 :: u27 :: u28 :: u29 :: u30 :: u31 :: u32 :: u33 :: u34 :: u35 :: u36 :: u37 :: u38 :: u39 :: u40 :: u41 :: u42 :: u43 :: u44 :: u45 :: u46 :: u47 :: u48 :: u49 :: u50 :: u51 :: u52 :: u53 :: u54 :: u55 :: u56 :: u57 :: u58 :: u59 :: u60 :: u61 :: u62 :: u63 :: u64 :: u65 :: u66 :: u67 :: u68 :: u69 :: u70 :: u71 :: u72 :: u73 :: u74 :: u75 :: u76 :: u77 :: u78 :: u79 :: u80 :: u81 :: u82 :: u83 :: u84 :: u85 :: u86 :: u87 :: u88 :: u89 :: u90 :: u91 :: u92 :: u93 :: u94 :: u95 :: u96 :: u97 :: u98 :: u99 :: u100 :: u101 :: u102 :: u103 :: u104 :: u105 :: u106 :: u107 :: u108 :: u109 :: u110 :: u111 :: u112 :: u113 :: u114 :: u115 :: u116 :: u117 :: u118 :: u119 :: u120 :: u121 :: u122 :: u123 :: u124 :: u125 :: u126 :: u127 :: u128 :: u129 :: u130 :: u131 :: u132 :: u133 :: u134 :: u135 :: []), []⟩ W) Q) ⟨List.toArray (.int .u8 (t : Int) :: .slice a L C :: c2 :: c3 :: c4 :: .slice (some ⟨g, 0, none⟩) n c :: .int .i64 (i : Int) :: u7 :: u8 :: u9 :: u10 :: u11 :: u12 :: u13 :: u14 :: u15 :: u16 :: u17 :: u18 :: u19 :: u20 :: u21 :: u22 :: u23 :: u24 :: u25 :: u26 :: u27 :: u28 :: u29 :: u30 :: u31 :: u32 :: u33 :: u34 :: u35 :: u36 :: u37 :: u38 :: u39 :: u40 :: u41 :: u42 :: u43 :: u44 :: u45 :: u46 :: u47 :: u48 :: u49 :: u50 :: u51 :: u52 :: u53 :: u54 :: u55 :: u56 :: u57 :: u58 :: u59 :: u60 :: u61 :: u62 :: u63 :: u64 :: u65 :: u66 :: u67 :: u68 :: u69 :: u70 :: u71 :: u72 :: u73 :: u74 :: u75 :: u76 :: u77 :: u78 :: u79 :: u80 :: u81 :: u82 :: u83 :: u84 :: u85 :: u86 :: u87 :: u88 :: u89 :: u90 :: u91 :: u92 :: u93 :: u94 :: u95 :: u96 :: u97 :: u98 :: u99 :: u100 :: u101 :: u102 :: u103 :: u104 :: u105 :: u106 :: u107 :: u108 :: u109 :: u110 :: u111 :: u112 :: u113 :: u114 :: u115 :: u116 :: u117 :: u118 :: u119 :: u120 :: u121 :: u122 :: u123 :: u124 :: u125 :: u126 :: u127 :: u128 :: u129 :: u130 :: u131 :: u132 :: u133 :: u134 :: u135 :: []), []⟩ W := by
  have et : body7 = .seq (hd7 body7) (.seq (.block 1 (cut3 (.seq s8 t37) in7)) r4) := rfl
  rw [et]
  clear et
  refine wp_seq ?_
  have hil := m.il
  by_cases hi : i < L
  · refine c3_go t a L C g n c i W _ c2 c3 c4 u7 u8 u9 u10 u11 u12 u13 u14 u15 u16 u17 u18 u19 u20 u21 u22 u23 u24 u25 u26 u27 u28 u29 u30 u31 u32 u33 u34 u35 u36 u37 u38 u39 u40 u41 u42 u43 u44 u45 u46 u47 u48 u49 u50 u51 u52 u53 u54 u55 u56 u57 u58 u59 u60 u61 u62 u63 u64 u65 u66 u67 u68 u69 u70 u71 u72 u73 u74 u75 u76 u77 u78 u79 u80 u81 u82 u83 u84 u85 u86 u87 u88 u89 u90 u91 u92 u93 u94 u95 u96 u97 u98 u99 u100 u101 u102 u103 u104 u105 u106 u107 u108 u109 u110 u111 u112 u113 u114 u115 u116 u117 u118 u119 u120 u121 u122 u123 u124 u125 u126 u127 u128 u129 u130 u131 u132 u133 u134 u135 hi ?_
    intro u7 u8 u9 u10 u11 u12 u13 u14 u15 u16 u17 u18 u19 u20 u21 u22 u23 u24 u25 u26 u27 u28 u29 u30 u31 u32 u33 u34 u35 u36 u37 u38 u39 u40 u41 u42 u43 u44 u45 u46 u47 u48 u49 u50 u51 u52 u53 u54 u55 u56 u57 u58 u59 u60 u61 u62 u63 u64 u65 u66 u67 u68 u69 u70 u71 u72 u73 u74 u75 u76 u77 u78 u79 u80 u81 u82 u83 u84 u85 u86 u87 u88 u89 u90 u91 u92 u93 u94 u95 u96 u97 u98 u99 u100 u101 u102 u103 u104 u105 u106 u107 u108 u109 u110 u111 u112 u113 u114 u115 u116 u117 u118 u119 u120 u121 u122 u123 u124 u125 u126 u127 u128 u129 u130 u131 u132 u133 u134 u135
    show Code.wp Ybaf.prog (.seq (.block 1 (cut3 (.seq s8 t37) in7)) r4) (Exit.then (fun A' W' => Inv7 w t a L C A' W' ∧ mu7 L A' W' < mu7 L _ W) Q) _ W
    refine wp_seq ?_
    refine wp_block ?_
    rcases hI with h0 | ⟨b, ob, rfl, hb, hIt⟩
    · omega
    obtain ⟨k, num, rn, rc, ra, lg, bd, it⟩ := hIt i hi
    have hbel := m.bel
    have own := m.own
    have hgB := own.base
    have hgW := own.lt
    have n1 := m.n1
    have n2 := m.n2
    have cW : ∀ j v, w.cell? ⟨b, j, none⟩ = some v → W.cell? ⟨b, j, none⟩ = some v := fun j v h => (hbel.cell (p := ⟨b, j, none⟩) hb).trans h
    refine head7 t L C g n c i W _ (.seq s8 t37) b ob k num rn rc ra lg bd c2 c3 c4 u7 u8 u9 u10 u11 u12 u13 u14 u15 u16 u17 u18 u19 u20 u21 u22 u23 u24 u25 u26 u27 u28 u29 u30 u31 u32 u33 u34 u35 u36 u37 u38 u39 u40 u41 u42 u43 u44 u45 u46 u47 u48 u49 u50 u51 u52 u53 u54 u55 u56 u57 u58 u59 u60 u61 u62 u63 u64 u65 u66 u67 u68 u69 u70 u71 u72 u73 u74 u75 u76 u77 u78 u79 u80 u81 u82 u83 u84 u85 u86 u87 u88 u89 u90 u91 u92 u93 u94 u95 u96 u97 u98 u99 u100 u101 u102 u103 u104 u105 u106 u107 u108 u109 u110 u111 u112 u113 u114 u115 u116 u117 u118 u119 u120 u121 u122 u123 u124 u125 u126 u127 u128 u129 u130 u131 u132 u133 u134 u135 hi (cW _ _ it.x0) (cW _ _ it.x1) (cW _ _ it.x2) (cW _ _ it.x3) (cW _ _ it.x4) ?_
    intro u10 u11 u12 u13 u14 u15 u16 u17 u18 u19 u20 u21 u22 u23 u24 u25 u26 u27 u28 u29 u30 u31 u32 u33 u34 u35 u36 u37 u38 u39 u40 u41 u42 u43 u44 u45 u46 u47 u48 u49 u50 u51 u52 u53 u54 u55 u56 u57 u58 u59 u60 u61 u62 u63 u64 u65 u66 u67 u68 u69 u70 u71 u72 u73 u74 u75 u76 u77 u78 u79 u80 u81 u82 u83 u84 u85 u86 u87 u88 u89 u90 u91 u92 u93 u94 u95 u96 u97 u98 u99 u100 u101 u102 u103 u104 u105 u106 u107 u108 u109 u110 u111 u112 u113 u114 u115 u116 u117 u118 u119 u120 u121 u122 u123 u124 u125 u126 u127 u128 u129 u130 u131 u132 u133 u134 u135
    -- the element's copy
    obtain ⟨W1, hW1⟩ : ∃ W1, W1 = W.alloc (.cells #[.int .u8 (k : Int), .int .u16 (num : Int), .slice ra rn rc, .bool lg, .bool bd] 57) := ⟨_, rfl⟩
    rw [← hW1]
    have k1 : Kept (fun _ => False) W W1 := by rw [hW1]; exact (Kept.refl _ _).alloc _
    have bq : Box W1 W.heap.size [.int .u8 (k : Int), .int .u16 (num : Int), .slice ra rn rc, .bool lg, .bool bd] := by rw [hW1]; exact Box.new W _ _
    clear hW1
    have hsrc : SrcOf W1 ra rn g := by
      rcases it.src with h | ⟨h, oh, Y, e, _, h2, h3⟩
      · exact .inl h
      · exact .inr ⟨h, oh, Y, e, by omega, by have := bq.lt; omega, fun j hj => ⟨(k1.cell (p := ⟨h, oh + j, none⟩) (show h < W.heap.size by omega) id).trans ((hbel.cell (p := ⟨h, oh + j, none⟩) h2).trans (h3 j hj).1), (h3 j hj).2⟩⟩
    have hkk := it.hk
    have hnn := it.hn
    have hrc := it.hrc
    -- what follows the 'switch'
    have hrest : ∀ (iei : Int) (va : Option Addr) (vn vc : Nat) (W2 : World) (u10 u11 u12 u13 u14 u15 u16 u17 u18 u19 u20 u21 u22 u23 u24 u25 u26 u27 u28 u29 u30 u31 u32 u33 u34 u35 u36 u37 u38 u39 u40 u41 u42 u43 u44 u45 u46 u47 u48 u49 u50 u51 u52 u53 u54 u55 u56 u57 u58 u59 u60 u61 u62 u63 u64 u65 u66 u67 u68 u69 u70 u71 u72 u73 u74 u75 u76 u77 u78 u79 u80 u81 u82 u83 u84 u85 u86 u87 u88 u89 u90 u91 u92 u93 u94 u95 u96 u97 u98 u99 u100 u101 u102 u103 u104 u105 u106 u107 u108 u109 u110 u111 u112 u113 u114 u115 u116 u117 u118 u119 u120 u121 u122 u123 u124 u125 u126 u127 u128 u129 u130 u131 u132 u133 u134 u135 : Value), 0 ≤ iei ∧ iei ≤ 255 → vn ≤ 127 → Kept (fun _ => False) W1 W2 → SrcOf W2 va vn g →
        Code.wp Ybaf.prog t37 (Exit.inBlock 1 (Exit.then (fun A' W' => Code.wp Ybaf.prog r4 (Exit.then (fun A' W' => Inv7 w t (some ⟨b, ob, none⟩) L C A' W' ∧ mu7 L A' W' < mu7 L ⟨List.toArray (.int .u8 (t : Int) :: .slice (some ⟨b, ob, none⟩) L C :: c2 :: c3 :: c4 :: .slice (some ⟨g, 0, none⟩) n c :: .int .i64 (i : Int) :: u7 :: u8 :: u9 :: u10 :: u11 :: u12 :: u13 :: u14 :: u15 :: u16 :: u17 :: u18 :: u19 :: u20 :: u21 :: u22 :: u23 :: u24 :: u25 :: u26 :: u27 :: u28 :: u29 :: u30 :: u31 :: u32 :: u33 :: u34 :: u35 :: u36 :: u37 :: u38 :: u39 :: u40 :: u41 :: u42 :: u43 :: u44 :: u45 :: u46 :: u47 :: u48 :: u49 :: u50 :: u51 :: u52 :: u53 :: u54 :: u55 :: u56 :: u57 :: u58 :: u59 :: u60 :: u61 :: u62 :: u63 :: u64 :: u65 :: u66 :: u67 :: u68 :: u69 :: u70 :: u71 :: u72 :: u73 :: u74 :: u75 :: u76 :: u77 :: u78 :: u79 :: u80 :: u81 :: u82 :: u83 :: u84 :: u85 :: u86 :: u87 :: u88 :: u89 :: u90 :: u91 :: u92 :: u93 :: u94 :: u95 :: u96 :: u97 :: u98 :: u99 :: u100 :: u101 :: u102 :: u103 :: u104 :: u105 :: u106 :: u107 :: u108 :: u109 :: u110 :: u111 :: u112 :: u113 :: u114 :: u115 :: u116 :: u117 :: u118 :: u119 :: u120 :: u121 :: u122 :: u123 :: u124 :: u125 :: u126 :: u127 :: u128 :: u129 :: u130 :: u131 :: u132 :: u133 :: u134 :: u135 :: []), []⟩ W) Q) A' W') (Exit.then (fun A' W' => Inv7 w t (some ⟨b, ob, none⟩) L C A' W' ∧ mu7 L A' W' < mu7 L ⟨List.toArray (.int .u8 (t : Int) :: .slice (some ⟨b, ob, none⟩) L C :: c2 :: c3 :: c4 :: .slice (some ⟨g, 0, none⟩) n c :: .int .i64 (i : Int) :: u7 :: u8 :: u9 :: u10 :: u11 :: u12 :: u13 :: u14 :: u15 :: u16 :: u17 :: u18 :: u19 :: u20 :: u21 :: u22 :: u23 :: u24 :: u25 :: u26 :: u27 :: u28 :: u29 :: u30 :: u31 :: u32 :: u33 :: u34 :: u35 :: u36 :: u37 :: u38 :: u39 :: u40 :: u41 :: u42 :: u43 :: u44 :: u45 :: u46 :: u47 :: u48 :: u49 :: u50 :: u51 :: u52 :: u53 :: u54 :: u55 :: u56 :: u57 :: u58 :: u59 :: u60 :: u61 :: u62 :: u63 :: u64 :: u65 :: u66 :: u67 :: u68 :: u69 :: u70 :: u71 :: u72 :: u73 :: u74 :: u75 :: u76 :: u77 :: u78 :: u79 :: u80 :: u81 :: u82 :: u83 :: u84 :: u85 :: u86 :: u87 :: u88 :: u89 :: u90 :: u91 :: u92 :: u93 :: u94 :: u95 :: u96 :: u97 :: u98 :: u99 :: u100 :: u101 :: u102 :: u103 :: u104 :: u105 :: u106 :: u107 :: u108 :: u109 :: u110 :: u111 :: u112 :: u113 :: u114 :: u115 :: u116 :: u117 :: u118 :: u119 :: u120 :: u121 :: u122 :: u123 :: u124 :: u125 :: u126 :: u127 :: u128 :: u129 :: u130 :: u131 :: u132 :: u133 :: u134 :: u135 :: []), []⟩ W) Q))) ⟨List.toArray (.int .u8 (t : Int) :: .slice (some ⟨b, ob, none⟩) L C :: c2 :: c3 :: c4 :: .slice (some ⟨g, 0, none⟩) n c :: .int .i64 (i : Int) :: .pointer (some ⟨W.heap.size, 0, none⟩) :: .int .u8 iei :: .slice va vn vc :: u10 :: u11 :: u12 :: u13 :: u14 :: u15 :: u16 :: u17 :: u18 :: u19 :: u20 :: u21 :: u22 :: u23 :: u24 :: u25 :: u26 :: u27 :: u28 :: u29 :: u30 :: u31 :: u32 :: u33 :: u34 :: u35 :: u36 :: u37 :: u38 :: u39 :: u40 :: u41 :: u42 :: u43 :: u44 :: u45 :: u46 :: u47 :: u48 :: u49 :: u50 :: u51 :: u52 :: u53 :: u54 :: u55 :: u56 :: u57 :: u58 :: u59 :: u60 :: u61 :: u62 :: u63 :: u64 :: u65 :: u66 :: u67 :: u68 :: u69 :: u70 :: u71 :: u72 :: u73 :: u74 :: u75 :: u76 :: u77 :: u78 :: u79 :: u80 :: u81 :: u82 :: u83 :: u84 :: u85 :: u86 :: u87 :: u88 :: u89 :: u90 :: u91 :: u92 :: u93 :: u94 :: u95 :: u96 :: u97 :: u98 :: u99 :: u100 :: u101 :: u102 :: u103 :: u104 :: u105 :: u106 :: u107 :: u108 :: u109 :: u110 :: u111 :: u112 :: u113 :: u114 :: u115 :: u116 :: u117 :: u118 :: u119 :: u120 :: u121 :: u122 :: u123 :: u124 :: u125 :: u126 :: u127 :: u128 :: u129 :: u130 :: u131 :: u132 :: u133 :: u134 :: u135 :: []), []⟩ W2 := by
      intro iei va vn vc W2 u10 u11 u12 u13 u14 u15 u16 u17 u18 u19 u20 u21 u22 u23 u24 u25 u26 u27 u28 u29 u30 u31 u32 u33 u34 u35 u36 u37 u38 u39 u40 u41 u42 u43 u44 u45 u46 u47 u48 u49 u50 u51 u52 u53 u54 u55 u56 u57 u58 u59 u60 u61 u62 u63 u64 u65 u66 u67 u68 u69 u70 u71 u72 u73 u74 u75 u76 u77 u78 u79 u80 u81 u82 u83 u84 u85 u86 u87 u88 u89 u90 u91 u92 u93 u94 u95 u96 u97 u98 u99 u100 u101 u102 u103 u104 u105 u106 u107 u108 u109 u110 u111 u112 u113 u114 u115 u116 u117 u118 u119 u120 u121 u122 u123 u124 u125 u126 u127 u128 u129 u130 u131 u132 u133 u134 u135 hi1 hv k2 hs2
      have kW2 : Kept (fun _ => False) W W2 := k1.trans k2
      have hend : ∀ (g' n' c' : Nat) (W3 : World) (u10 u11 u12 u13 u14 u15 u16 u17 u18 u19 u20 u21 u22 u23 u24 u25 u26 u27 u28 u29 u30 u31 u32 u33 u34 u35 u36 u37 u38 u39 u40 u41 u42 u43 u44 u45 u46 u47 u48 u49 u50 u51 u52 u53 u54 u55 u56 u57 u58 u59 u60 u61 u62 u63 u64 u65 u66 u67 u68 u69 u70 u71 u72 u73 u74 u75 u76 u77 u78 u79 u80 u81 u82 u83 u84 u85 u86 u87 u88 u89 u90 u91 u92 u93 u94 u95 u96 u97 u98 u99 u100 u101 u102 u103 u104 u105 u106 u107 u108 u109 u110 u111 u112 u113 u114 u115 u116 u117 u118 u119 u120 u121 u122 u123 u124 u125 u126 u127 u128 u129 u130 u131 u132 u133 u134 u135 : Value), OwnRow w.heap.size W3 g' n' c' → n ≤ n' → n' ≤ n + 130 → Kept (· = g) W2 W3 →
          Code.wp Ybaf.prog r4 (Exit.then (fun A' W' => Inv7 w t (some ⟨b, ob, none⟩) L C A' W' ∧ mu7 L A' W' < mu7 L ⟨List.toArray (.int .u8 (t : Int) :: .slice (some ⟨b, ob, none⟩) L C :: c2 :: c3 :: c4 :: .slice (some ⟨g, 0, none⟩) n c :: .int .i64 (i : Int) :: u7 :: u8 :: u9 :: u10 :: u11 :: u12 :: u13 :: u14 :: u15 :: u16 :: u17 :: u18 :: u19 :: u20 :: u21 :: u22 :: u23 :: u24 :: u25 :: u26 :: u27 :: u28 :: u29 :: u30 :: u31 :: u32 :: u33 :: u34 :: u35 :: u36 :: u37 :: u38 :: u39 :: u40 :: u41 :: u42 :: u43 :: u44 :: u45 :: u46 :: u47 :: u48 :: u49 :: u50 :: u51 :: u52 :: u53 :: u54 :: u55 :: u56 :: u57 :: u58 :: u59 :: u60 :: u61 :: u62 :: u63 :: u64 :: u65 :: u66 :: u67 :: u68 :: u69 :: u70 :: u71 :: u72 :: u73 :: u74 :: u75 :: u76 :: u77 :: u78 :: u79 :: u80 :: u81 :: u82 :: u83 :: u84 :: u85 :: u86 :: u87 :: u88 :: u89 :: u90 :: u91 :: u92 :: u93 :: u94 :: u95 :: u96 :: u97 :: u98 :: u99 :: u100 :: u101 :: u102 :: u103 :: u104 :: u105 :: u106 :: u107 :: u108 :: u109 :: u110 :: u111 :: u112 :: u113 :: u114 :: u115 :: u116 :: u117 :: u118 :: u119 :: u120 :: u121 :: u122 :: u123 :: u124 :: u125 :: u126 :: u127 :: u128 :: u129 :: u130 :: u131 :: u132 :: u133 :: u134 :: u135 :: []), []⟩ W) Q) ⟨List.toArray (.int .u8 (t : Int) :: .slice (some ⟨b, ob, none⟩) L C :: c2 :: c3 :: c4 :: .slice (some ⟨g', 0, none⟩) n' c' :: .int .i64 (i : Int) :: .pointer (some ⟨W.heap.size, 0, none⟩) :: .int .u8 iei :: .slice va vn vc :: u10 :: u11 :: u12 :: u13 :: u14 :: u15 :: u16 :: u17 :: u18 :: u19 :: u20 :: u21 :: u22 :: u23 :: u24 :: u25 :: u26 :: u27 :: u28 :: u29 :: u30 :: u31 :: u32 :: u33 :: u34 :: u35 :: u36 :: u37 :: u38 :: u39 :: u40 :: u41 :: u42 :: u43 :: u44 :: u45 :: u46 :: u47 :: u48 :: u49 :: u50 :: u51 :: u52 :: u53 :: u54 :: u55 :: u56 :: u57 :: u58 :: u59 :: u60 :: u61 :: u62 :: u63 :: u64 :: u65 :: u66 :: u67 :: u68 :: u69 :: u70 :: u71 :: u72 :: u73 :: u74 :: u75 :: u76 :: u77 :: u78 :: u79 :: u80 :: u81 :: u82 :: u83 :: u84 :: u85 :: u86 :: u87 :: u88 :: u89 :: u90 :: u91 :: u92 :: u93 :: u94 :: u95 :: u96 :: u97 :: u98 :: u99 :: u100 :: u101 :: u102 :: u103 :: u104 :: u105 :: u106 :: u107 :: u108 :: u109 :: u110 :: u111 :: u112 :: u113 :: u114 :: u115 :: u116 :: u117 :: u118 :: u119 :: u120 :: u121 :: u122 :: u123 :: u124 :: u125 :: u126 :: u127 :: u128 :: u129 :: u130 :: u131 :: u132 :: u133 :: u134 :: u135 :: []), []⟩ W3 := by
        intro g' n' c' W3 u10 u11 u12 u13 u14 u15 u16 u17 u18 u19 u20 u21 u22 u23 u24 u25 u26 u27 u28 u29 u30 u31 u32 u33 u34 u35 u36 u37 u38 u39 u40 u41 u42 u43 u44 u45 u46 u47 u48 u49 u50 u51 u52 u53 u54 u55 u56 u57 u58 u59 u60 u61 u62 u63 u64 u65 u66 u67 u68 u69 u70 u71 u72 u73 u74 u75 u76 u77 u78 u79 u80 u81 u82 u83 u84 u85 u86 u87 u88 u89 u90 u91 u92 u93 u94 u95 u96 u97 u98 u99 u100 u101 u102 u103 u104 u105 u106 u107 u108 u109 u110 u111 u112 u113 u114 u115 u116 u117 u118 u119 u120 u121 u122 u123 u124 u125 u126 u127 u128 u129 u130 u131 u132 u133 u134 u135 o3 l1 l2 k3
        refine r4_runs t (some ⟨b, ob, none⟩) L C g' n' c' i W3 _ _ _ _ _ _ _ _ _ _ _ _ _ _ _ _ _ _ _ _ _ _ _ _ _ _ _ _ _ _ _ _ _ _ _ _ _ _ _ _ _ _ _ _ _ _ _ _ _ _ _ _ _ _ _ _ _ _ _ _ _ _ _ _ _ _ _ _ _ _ _ _ _ _ _ _ _ _ _ _ _ _ _ _ _ _ _ _ _ _ _ _ _ _ _ _ _ _ _ _ _ _ _ _ _ _ _ _ _ _ _ _ _ _ _ _ _ _ _ _ _ _ _ _ _ _ _ _ _ _ _ _ _ (by omega) ?_
        intro u7 u8 u9 u10 u11 u12 u13 u14 u15 u16 u17 u18 u19 u20 u21 u22 u23 u24 u25 u26 u27 u28 u29 u30 u31 u32 u33 u34 u35 u36 u37 u38 u39 u40 u41 u42 u43 u44 u45 u46 u47 u48 u49 u50 u51 u52 u53 u54 u55 u56 u57 u58 u59 u60 u61 u62 u63 u64 u65 u66 u67 u68 u69 u70 u71 u72 u73 u74 u75 u76 u77 u78 u79 u80 u81 u82 u83 u84 u85 u86 u87 u88 u89 u90 u91 u92 u93 u94 u95 u96 u97 u98 u99 u100 u101 u102 u103 u104 u105 u106 u107 u108 u109 u110 u111 u112 u113 u114 u115 u116 u117 u118 u119 u120 u121 u122 u123 u124 u125 u126 u127 u128 u129 u130 u131 u132 u133 u134 u135
        refine ⟨⟨g', n', c', i + 1, ⟨by omega, o3, by omega, by omega, hbel.trans ((kW2.below (fun _ h => h.elim) (by have := hbel.size; omega)).trans (k3.below (fun x h => by omega) (by have := kW2.size; have := hbel.size; omega)))⟩, c2, c3, c4, u7, u8, u9, u10, u11, u12, u13, u14, u15, u16, u17, u18, u19, u20, u21, u22, u23, u24, u25, u26, u27, u28, u29, u30, u31, u32, u33, u34, u35, u36, u37, u38, u39, u40, u41, u42, u43, u44, u45, u46, u47, u48, u49, u50, u51, u52, u53, u54, u55, u56, u57, u58, u59, u60, u61, u62, u63, u64, u65, u66, u67, u68, u69, u70, u71, u72, u73, u74, u75, u76, u77, u78, u79, u80, u81, u82, u83, u84, u85, u86, u87, u88, u89, u90, u91, u92, u93, u94, u95, u96, u97, u98, u99, u100, u101, u102, u103, u104, u105, u106, u107, u108, u109, u110, u111, u112, u113, u114, u115, u116, u117, u118, u119, u120, u121, u122, u123, u124, u125, u126, u127, u128, u129, u130, u131, u132, u133, u134, u135, rfl⟩, ?_⟩
        simp [mu7, intOf]
        omega
      cases lg with
      | true => exact t37_long t (some ⟨b, ob, none⟩) L C g n c i W.heap.size W2 _ w.heap.size iei va vn vc k num rn rc ra bd _ _ _ _ _ _ _ _ _ _ _ _ _ _ _ _ _ _ _ _ _ _ _ _ _ _ _ _ _ _ _ _ _ _ _ _ _ _ _ _ _ _ _ _ _ _ _ _ _ _ _ _ _ _ _ _ _ _ _ _ _ _ _ _ _ _ _ _ _ _ _ _ _ _ _ _ _ _ _ _ _ _ _ _ _ _ _ _ _ _ _ _ _ _ _ _ _ _ _ _ _ _ _ _ _ _ _ _ _ _ _ _ _ _ _ _ _ _ _ _ _ _ _ _ _ _ _ _ _ (bq.kept k2 id) (by omega) (own.kept kW2 id) hs2 hi1 hv (by omega) hend
      | false => exact t37_short t (some ⟨b, ob, none⟩) L C g n c i W.heap.size W2 _ w.heap.size iei va vn vc k num rn rc ra bd _ _ _ _ _ _ _ _ _ _ _ _ _ _ _ _ _ _ _ _ _ _ _ _ _ _ _ _ _ _ _ _ _ _ _ _ _ _ _ _ _ _ _ _ _ _ _ _ _ _ _ _ _ _ _ _ _ _ _ _ _ _ _ _ _ _ _ _ _ _ _ _ _ _ _ _ _ _ _ _ _ _ _ _ _ _ _ _ _ _ _ _ _ _ _ _ _ _ _ _ _ _ _ _ _ _ _ _ _ _ _ _ _ _ _ _ _ _ _ _ _ _ _ _ _ _ _ _ _ (bq.kept k2 id) (by omega) (own.kept kW2 id) hs2 hi1 hv (by omega) hend
    refine wp_seq ?_
    obtain h3 | h3 | h3 : k % 3 = 0 ∨ k % 3 = 1 ∨ k % 3 = 2 := by omega
    · exact s8_zero t (some ⟨b, ob, none⟩) L C g n c i W.heap.size W1 _ k num rn rc ra lg bd _ _ _ _ _ _ _ _ _ _ _ _ _ _ _ _ _ _ _ _ _ _ _ _ _ _ _ _ _ _ _ _ _ _ _ _ _ _ _ _ _ _ _ _ _ _ _ _ _ _ _ _ _ _ _ _ _ _ _ _ _ _ _ _ _ _ _ _ _ _ _ _ _ _ _ _ _ _ _ _ _ _ _ _ _ _ _ _ _ _ _ _ _ _ _ _ _ _ _ _ _ _ _ _ _ _ _ _ _ _ _ _ _ _ _ _ _ _ _ _ _ _ _ _ _ _ _ _ _ _ _ bq hkk hnn (by have := bq.lt; omega) h3 hrest
    · exact s8_one t (some ⟨b, ob, none⟩) L C g n c i W.heap.size W1 _ k num rn rc ra lg bd _ _ _ _ _ _ _ _ _ _ _ _ _ _ _ _ _ _ _ _ _ _ _ _ _ _ _ _ _ _ _ _ _ _ _ _ _ _ _ _ _ _ _ _ _ _ _ _ _ _ _ _ _ _ _ _ _ _ _ _ _ _ _ _ _ _ _ _ _ _ _ _ _ _ _ _ _ _ _ _ _ _ _ _ _ _ _ _ _ _ _ _ _ _ _ _ _ _ _ _ _ _ _ _ _ _ _ _ _ _ _ _ _ _ _ _ _ _ _ _ _ _ _ _ _ _ _ _ _ _ _ bq hkk (by have := bq.lt; omega) h3 hsrc hrest
    · exact s8_two t (some ⟨b, ob, none⟩) L C g n c i W.heap.size W1 _ k num rn rc ra lg bd _ _ _ _ _ _ _ _ _ _ _ _ _ _ _ _ _ _ _ _ _ _ _ _ _ _ _ _ _ _ _ _ _ _ _ _ _ _ _ _ _ _ _ _ _ _ _ _ _ _ _ _ _ _ _ _ _ _ _ _ _ _ _ _ _ _ _ _ _ _ _ _ _ _ _ _ _ _ _ _ _ _ _ _ _ _ _ _ _ _ _ _ _ _ _ _ _ _ _ _ _ _ _ _ _ _ _ _ _ _ _ _ _ _ _ _ _ _ _ _ _ _ _ _ _ _ _ _ _ _ _ bq hkk h3 hrc hsrc hrest
  · refine c3_end t a L C g n c i W _ c2 c3 c4 u7 u8 u9 u10 u11 u12 u13 u14 u15 u16 u17 u18 u19 u20 u21 u22 u23 u24 u25 u26 u27 u28 u29 u30 u31 u32 u33 u34 u35 u36 u37 u38 u39 u40 u41 u42 u43 u44 u45 u46 u47 u48 u49 u50 u51 u52 u53 u54 u55 u56 u57 u58 u59 u60 u61 u62 u63 u64 u65 u66 u67 u68 u69 u70 u71 u72 u73 u74 u75 u76 u77 u78 u79 u80 u81 u82 u83 u84 u85 u86 u87 u88 u89 u90 u91 u92 u93 u94 u95 u96 u97 u98 u99 u100 u101 u102 u103 u104 u105 u106 u107 u108 u109 u110 u111 u112 u113 u114 u115 u116 u117 u118 u119 u120 u121 u122 u123 u124 u125 u126 u127 u128 u129 u130 u131 u132 u133 u134 u135 (by omega) ?_
    intro u7 u8 u9 u10 u11 u12 u13 u14 u15 u16 u17 u18 u19 u20 u21 u22 u23 u24 u25 u26 u27 u28 u29 u30 u31 u32 u33 u34 u35 u36 u37 u38 u39 u40 u41 u42 u43 u44 u45 u46 u47 u48 u49 u50 u51 u52 u53 u54 u55 u56 u57 u58 u59 u60 u61 u62 u63 u64 u65 u66 u67 u68 u69 u70 u71 u72 u73 u74 u75 u76 u77 u78 u79 u80 u81 u82 u83 u84 u85 u86 u87 u88 u89 u90 u91 u92 u93 u94 u95 u96 u97 u98 u99 u100 u101 u102 u103 u104 u105 u106 u107 u108 u109 u110 u111 u112 u113 u114 u115 u116 u117 u118 u119 u120 u121 u122 u123 u124 u125 u126 u127 u128 u129 u130 u131 u132 u133 u134 u135
    exact hexit g n c i W m c2 c3 c4 u7 u8 u9 u10 u11 u12 u13 u14 u15 u16 u17 u18 u19 u20 u21 u22 u23 u24 u25 u26 u27 u28 u29 u30 u31 u32 u33 u34 u35 u36 u37 u38 u39 u40 u41 u42 u43 u44 u45 u46 u47 u48 u49 u50 u51 u52 u53 u54 u55 u56 u57 u58 u59 u60 u61 u62 u63 u64 u65 u66 u67 u68 u69 u70 u71 u72 u73 u74 u75 u76 u77 u78 u79 u80 u81 u82 u83 u84 u85 u86 u87 u88 u89 u90 u91 u92 u93 u94 u95 u96 u97 u98 u99 u100 u101 u102 u103 u104 u105 u106 u107 u108 u109 u110 u111 u112 u113 u114 u115 u116 u117 u118 u119 u120 u121 u122 u123 u124 u125 u126 u127 u128 u129 u130 u131 u132 u133 u134 u135

set_option maxRecDepth 100000 in
theorem loop7 (w : World) (t : Nat) (a : Option Addr) (L C : Nat) (Q : Exit → Act → World → Prop) (hL : L ≤ 300) (hI : Items w a L)
    (hexit : ∀ g n c i W, Mid7 w L g n c i W → ∀ c2 c3 c4 u7 u8 u9 u10 u11 u12 u13 u14 u15 u16 u17 u18 u19 u20 u21 u22 u23 u24 u25 u26 u27 u28 u29 u30 u31 u32 u33 u34 u35 u36 u37 u38 u39 u40 u41 u42 u43 u44 u45 u46 u47 u48 u49 u50 u51 u52 u53 u54 u55 u56 u57 u58 u59 u60 u61 u62 u63 u64 u65 u66 u67 u68 u69 u70 u71 u72 u73 u74 u75 u76 u77 u78 u79 u80 u81 u82 u83 u84 u85 u86 u87 u88 u89 u90 u91 u92 u93 u94 u95 u96 u97 u98 u99 u100 u101 u102 u103 u104 u105 u106 u107 u108 u109 u110 u111 u112 u113 u114 u115 u116 u117 u118 u119 u120 u121 u122 u123 u124 u125 u126 u127 u128 u129 u130 u131 u132 u133 u134 u135 : Value, Q (.exit 0) ⟨List.toArray (.int .u8 (t : Int) :: .slice a L C :: c2 :: c3 :: c4 :: .slice (some ⟨g, 0, none⟩) n c :: .int .i64 (i : Int) :: u7 :: u8 :: u9 :: u10 :: u11 :: u12 :: u13 :: u14 :: u15 :: u16 :: u17 :: u18 :: u19 :: u20 :: u21 :: u22 :: u23 :: u24 :: u25 :: u26 :: u27 :: u28 :: u29 :: u30 :: u31 :: u32 :: u33 :: u34 :: u35 :: u36 :: u37 :: u38 :: u39 :: u40 :: u41 :: u42 :: u43 :: u44 :: u45 :: u46 :: u47 :: u48 :: u49 :: u50 :: u51 :: u52 :: u53 :: u54 :: u55 :: u56 :: u57 :: u58 :: u59 :: u60 :: u61 :: u62 :: u63 :: u64 :: u65 :: u66 :: u67 :: u68 :: u69 :: u70 :: u71 :: u72 :: u73 :: u74 :: u75 :: u76 :: u77 :: u78 :: u79 :: u80 :: u81 :: u82 :: u83 :: u84 :: u85 :: u86 :: u87 :: u88 :: u89 :: u90 :: u91 :: u92 :: u93 :: u94 :: u95 :: u96 :: u97 :: u98 :: u99 :: u100 :: u101 :: u102 :: u103 :: u104 :: u105 :: u106 :: u107 :: u108 :: u109 :: u110 :: u111 :: u112 :: u113 :: u114 :: u115 :: u116 :: u117 :: u118 :: u119 :: u120 :: u121 :: u122 :: u123 :: u124 :: u125 :: u126 :: u127 :: u128 :: u129 :: u130 :: u131 :: u132 :: u133 :: u134 :: u135 :: []), []⟩ W)
    (g n c i : Nat) (W : World) (m : Mid7 w L g n c i W) (c2 c3 c4 u7 u8 u9 u10 u11 u12 u13 u14 u15 u16 u17 u18 u19 u20 u21 u22 u23 u24 u25 u26 u27 u28 u29 u30 u31 u32 u33 u34 u35 u36 u37 u38 u39 u40 u41 u42 u43 u44 u45 u46 u47 u48 u49 u50 u51 u52 u53 u54 u55 u56 u57 u58 u59 u60 u61 u62 u63 u64 u65 u66 u67 u68 u69 u70 u71 u72 u73 u74 u75 u76 u77 u78 u79 u80 u81 u82 u83 u84 u85 u86 u87 u88 u89 u90 u91 u92 u93 u94 u95 u96 u97 u98 u99 u100 u101 u102 u103 u104 u105 u106 u107 u108 u109 u110 u111 u112 u113 u114 u115 u116 u117 u118 u119 u120 u121 u122 u123 u124 u125 u126 u127 u128 u129 u130 u131 u132 u133 u134 u135 : Value) :
    Code.wp Ybaf.prog (Code.loop body7) Q ⟨List.toArray (.int .u8 (t : Int) :: .slice a L C :: c2 :: c3 :: c4 :: .slice (some ⟨g, 0, none⟩) n c :: .int .i64 (i : Int) :: u7 :: u8 :: u9 :: u10 :: u11 :: u12 :: u13 :: u14 :: u15 :: u16 :: u17 :: u18 :: u19 :: u20 :: u21 :: u22 :: u23 :: u24 :: u25 :: u26 :: u27 :: u28 :: u29 :: u30 :: u31 :: u32 :: u33 :: u34 :: u35 :: u36 :: u37 :: u38 :: u39 :: u40 :: u41 :: u42 :: u43 :: u44 :: u45 :: u46 :: u47 :: u48 :: u49 :: u50 :: u51 :: u52 :: u53 :: u54 :: u55 :: u56 :: u57 :: u58 :: u59 :: u60 :: u61 :: u62 :: u63 :: u64 :: u65 :: u66 :: u67 :: u68 :: u69 :: u70 :: u71 :: u72 :: u73 :: u74 :: u75 :: u76 :: u77 :: u78 :: u79 :: u80 :: u81 :: u82 :: u83 :: u84 :: u85 :: u86 :: u87 :: u88 :: u89 :: u90 :: u91 :: u92 :: u93 :: u94 :: u95 :: u96 :: u97 :: u98 :: u99 :: u100 :: u101 :: u102 :: u103 :: u104 :: u105 :: u106 :: u107 :: u108 :: u109 :: u110 :: u111 :: u112 :: u113 :: u114 :: u115 :: u116 :: u117 :: u118 :: u119 :: u120 :: u121 :: u122 :: u123 :: u124 :: u125 :: u126 :: u127 :: u128 :: u129 :: u130 :: u131 :: u132 :: u133 :: u134 :: u135 :: []), []⟩ W := by
  refine wp_loop (Inv7 w t a L C) (mu7 L) ⟨g, n, c, i, m, c2, c3, c4, u7, u8, u9, u10, u11, u12, u13, u14, u15, u16, u17, u18, u19, u20, u21, u22, u23, u24, u25, u26, u27, u28, u29, u30, u31, u32, u33, u34, u35, u36, u37, u38, u39, u40, u41, u42, u43, u44, u45, u46, u47, u48, u49, u50, u51, u52, u53, u54, u55, u56, u57, u58, u59, u60, u61, u62, u63, u64, u65, u66, u67, u68, u69, u70, u71, u72, u73, u74, u75, u76, u77, u78, u79, u80, u81, u82, u83, u84, u85, u86, u87, u88, u89, u90, u91, u92, u93, u94, u95, u96, u97, u98, u99, u100, u101, u102, u103, u104, u105, u106, u107, u108, u109, u110, u111, u112, u113, u114, u115, u116, u117, u118, u119, u120, u121, u122, u123, u124, u125, u126, u127, u128, u129, u130, u131, u132, u133, u134, u135, rfl⟩ ?_
  intro A W' hV
  obtain ⟨g, n, c, i, m, hV⟩ := hV
  obtain ⟨c2, hV⟩ := hV
  obtain ⟨c3, hV⟩ := hV
  obtain ⟨c4, hV⟩ := hV
  obtain ⟨u7, hV⟩ := hV
  obtain ⟨u8, hV⟩ := hV
  obtain ⟨u9, hV⟩ := hV
  obtain ⟨u10, hV⟩ := hV
  obtain ⟨u11, hV⟩ := hV
  obtain ⟨u12, hV⟩ := hV
  obtain ⟨u13, hV⟩ := hV
  obtain ⟨u14, hV⟩ := hV
  obtain ⟨u15, hV⟩ := hV
  obtain ⟨u16, hV⟩ := hV
  obtain ⟨u17, hV⟩ := hV
  obtain ⟨u18, hV⟩ := hV
  obtain ⟨u19, hV⟩ := hV
  obtain ⟨u20, hV⟩ := hV
  obtain ⟨u21, hV⟩ := hV
  obtain ⟨u22, hV⟩ := hV
  obtain ⟨u23, hV⟩ := hV
  obtain ⟨u24, hV⟩ := hV
  obtain ⟨u25, hV⟩ := hV
  obtain ⟨u26, hV⟩ := hV
  obtain ⟨u27, hV⟩ := hV
  obtain ⟨u28, hV⟩ := hV
  obtain ⟨u29, hV⟩ := hV
  obtain ⟨u30, hV⟩ := hV
  obtain ⟨u31, hV⟩ := hV
  obtain ⟨u32, hV⟩ := hV
  obtain ⟨u33, hV⟩ := hV
  obtain ⟨u34, hV⟩ := hV
  obtain ⟨u35, hV⟩ := hV
  obtain ⟨u36, hV⟩ := hV
  obtain ⟨u37, hV⟩ := hV
  obtain ⟨u38, hV⟩ := hV
  obtain ⟨u39, hV⟩ := hV
  obtain ⟨u40, hV⟩ := hV
  obtain ⟨u41, hV⟩ := hV
  obtain ⟨u42, hV⟩ := hV
  obtain ⟨u43, hV⟩ := hV
  obtain ⟨u44, hV⟩ := hV
  obtain ⟨u45, hV⟩ := hV
  obtain ⟨u46, hV⟩ := hV
  obtain ⟨u47, hV⟩ := hV
  obtain ⟨u48, hV⟩ := hV
  obtain ⟨u49, hV⟩ := hV
  obtain ⟨u50, hV⟩ := hV
  obtain ⟨u51, hV⟩ := hV
  obtain ⟨u52, hV⟩ := hV
  obtain ⟨u53, hV⟩ := hV
  obtain ⟨u54, hV⟩ := hV
  obtain ⟨u55, hV⟩ := hV
  obtain ⟨u56, hV⟩ := hV
  obtain ⟨u57, hV⟩ := hV
  obtain ⟨u58, hV⟩ := hV
  obtain ⟨u59, hV⟩ := hV
  obtain ⟨u60, hV⟩ := hV
  obtain ⟨u61, hV⟩ := hV
  obtain ⟨u62, hV⟩ := hV
  obtain ⟨u63, hV⟩ := hV
  obtain ⟨u64, hV⟩ := hV
  obtain ⟨u65, hV⟩ := hV
  obtain ⟨u66, hV⟩ := hV
  obtain ⟨u67, hV⟩ := hV
  obtain ⟨u68, hV⟩ := hV
  obtain ⟨u69, hV⟩ := hV
  obtain ⟨u70, hV⟩ := hV
  obtain ⟨u71, hV⟩ := hV
  obtain ⟨u72, hV⟩ := hV
  obtain ⟨u73, hV⟩ := hV
  obtain ⟨u74, hV⟩ := hV
  obtain ⟨u75, hV⟩ := hV
  obtain ⟨u76, hV⟩ := hV
  obtain ⟨u77, hV⟩ := hV
  obtain ⟨u78, hV⟩ := hV
  obtain ⟨u79, hV⟩ := hV
  obtain ⟨u80, hV⟩ := hV
  obtain ⟨u81, hV⟩ := hV
  obtain ⟨u82, hV⟩ := hV
  obtain ⟨u83, hV⟩ := hV
  obtain ⟨u84, hV⟩ := hV
  obtain ⟨u85, hV⟩ := hV
  obtain ⟨u86, hV⟩ := hV
  obtain ⟨u87, hV⟩ := hV
  obtain ⟨u88, hV⟩ := hV
  obtain ⟨u89, hV⟩ := hV
  obtain ⟨u90, hV⟩ := hV
  obtain ⟨u91, hV⟩ := hV
  obtain ⟨u92, hV⟩ := hV
  obtain ⟨u93, hV⟩ := hV
  obtain ⟨u94, hV⟩ := hV
  obtain ⟨u95, hV⟩ := hV
  obtain ⟨u96, hV⟩ := hV
  obtain ⟨u97, hV⟩ := hV
  obtain ⟨u98, hV⟩ := hV
  obtain ⟨u99, hV⟩ := hV
  obtain ⟨u100, hV⟩ := hV
  obtain ⟨u101, hV⟩ := hV
  obtain ⟨u102, hV⟩ := hV
  obtain ⟨u103, hV⟩ := hV
  obtain ⟨u104, hV⟩ := hV
  obtain ⟨u105, hV⟩ := hV
  obtain ⟨u106, hV⟩ := hV
  obtain ⟨u107, hV⟩ := hV
  obtain ⟨u108, hV⟩ := hV
  obtain ⟨u109, hV⟩ := hV
  obtain ⟨u110, hV⟩ := hV
  obtain ⟨u111, hV⟩ := hV
  obtain ⟨u112, hV⟩ := hV
  obtain ⟨u113, hV⟩ := hV
  obtain ⟨u114, hV⟩ := hV
  obtain ⟨u115, hV⟩ := hV
  obtain ⟨u116, hV⟩ := hV
  obtain ⟨u117, hV⟩ := hV
  obtain ⟨u118, hV⟩ := hV
  obtain ⟨u119, hV⟩ := hV
  obtain ⟨u120, hV⟩ := hV
  obtain ⟨u121, hV⟩ := hV
  obtain ⟨u122, hV⟩ := hV
  obtain ⟨u123, hV⟩ := hV
  obtain ⟨u124, hV⟩ := hV
  obtain ⟨u125, hV⟩ := hV
  obtain ⟨u126, hV⟩ := hV
  obtain ⟨u127, hV⟩ := hV
  obtain ⟨u128, hV⟩ := hV
  obtain ⟨u129, hV⟩ := hV
  obtain ⟨u130, hV⟩ := hV
  obtain ⟨u131, hV⟩ := hV
  obtain ⟨u132, hV⟩ := hV
  obtain ⟨u133, hV⟩ := hV
  obtain ⟨u134, hV⟩ := hV
  obtain ⟨u135, hV⟩ := hV
  subst hV
  exact round7 w t a L C Q hL hI hexit g n c i W' m c2 c3 c4 u7 u8 u9 u10 u11 u12 u13 u14 u15 u16 u17 u18 u19 u20 u21 u22 u23 u24 u25 u26 u27 u28 u29 u30 u31 u32 u33 u34 u35 u36 u37 u38 u39 u40 u41 u42 u43 u44 u45 u46 u47 u48 u49 u50 u51 u52 u53 u54 u55 u56 u57 u58 u59 u60 u61 u62 u63 u64 u65 u66 u67 u68 u69 u70 u71 u72 u73 u74 u75 u76 u77 u78 u79 u80 u81 u82 u83 u84 u85 u86 u87 u88 u89 u90 u91 u92 u93 u94 u95 u96 u97 u98 u99 u100 u101 u102 u103 u104 u105 u106 u107 u108 u109 u110 u111 u112 u113 u114 u115 u116 u117 u118 u119 u120 u121 u122 u123 u124 u125 u126 u127 u128 u129 u130 u131 u132 u133 u134 u135

set_option maxRecDepth 100000 in
set_option maxHeartbeats 4000000 in
theorem build_any (w : World) (t : Nat) (a : Option Addr) (L C : Nat) (ht : t < 256) (hL : L ≤ 300) (hI : Items w a L) :
    Calls Ybaf.prog 7 #[.int .u8 (t : Int), .slice a L C] w fun e w' => ∃ g n c, e = .returned (.slice (some ⟨g, 0, none⟩) n c) ∧ OwnRow w.heap.size w' g n c ∧ n ≤ 39001 ∧ Below w.heap.size w w' := by
  obtain ⟨X, hX⟩ : ∃ X, X = w.alloc (.cells #[.int .u8 (t : Int)] 5) := ⟨_, rfl⟩
  have bX : Below w.heap.size w X := by rw [hX]; go_grown
  have row : Row X w.heap.size 0 1 (fun _ => (t : Int)) := by
    have bb := Box.new w #[.int .u8 (t : Int)] 5
    rw [← hX] at bb
    refine ⟨fun j hj => ?_, fun j _ => bb.frz _⟩
    obtain rfl : j = 0 := by omega
    exact bb.cell 0 _ rfl
  have zX : w.heap.size < X.heap.size := by rw [hX]; simp
  have m0 : Mid7 w L w.heap.size 1 1 0 X := ⟨by omega, ⟨⟨_, row, fun j _ => by constructor <;> omega⟩, by omega, by omega, zX⟩, by omega, by omega, bX⟩
  clear bX row
  go_enter Ybaf.func7, Ybaf.ntmps7
  go_wp2_with fail
  rw [← hX]
  clear hX
  refine loop7 w t a L C _ hL hI ?_ w.heap.size 1 1 0 X m0 _ _ _ _ _ _ _ _ _ _ _ _ _ _ _ _ _ _ _ _ _ _ _ _ _ _ _ _ _ _ _ _ _ _ _ _ _ _ _ _ _ _ _ _ _ _ _ _ _ _ _ _ _ _ _ _ _ _ _ _ _ _ _ _ _ _ _ _ _ _ _ _ _ _ _ _ _ _ _ _ _ _ _ _ _ _ _ _ _ _ _ _ _ _ _ _ _ _ _ _ _ _ _ _ _ _ _ _ _ _ _ _ _ _ _ _ _ _ _ _ _ _ _ _ _ _ _ _ _ _ _ _
  intro g n c i W m c2 c3 c4 u7 u8 u9 u10 u11 u12 u13 u14 u15 u16 u17 u18 u19 u20 u21 u22 u23 u24 u25 u26 u27 u28 u29 u30 u31 u32 u33 u34 u35 u36 u37 u38 u39 u40 u41 u42 u43 u44 u45 u46 u47 u48 u49 u50 u51 u52 u53 u54 u55 u56 u57 u58 u59 u60 u61 u62 u63 u64 u65 u66 u67 u68 u69 u70 u71 u72 u73 u74 u75 u76 u77 u78 u79 u80 u81 u82 u83 u84 u85 u86 u87 u88 u89 u90 u91 u92 u93 u94 u95 u96 u97 u98 u99 u100 u101 u102 u103 u104 u105 u106 u107 u108 u109 u110 u111 u112 u113 u114 u115 u116 u117 u118 u119 u120 u121 u122 u123 u124 u125 u126 u127 u128 u129 u130 u131 u132 u133 u134 u135
  have hn := m.n2
  have hil := m.il
  have o := m.own
  have hb := m.bel
  clear m m0
  go_wp2_with fail
  go_returns
  all_goals exact ⟨g, n, c, rfl, o, by omega, hb⟩
end Go.Proofs.YbulkcupaFmt
