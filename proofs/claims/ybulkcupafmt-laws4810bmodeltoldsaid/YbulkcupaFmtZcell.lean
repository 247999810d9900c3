/- By an AI agent. No person has read it.
   zzs4810bcell (function 19). -/
import Derived.Test.YbulkcupaFmtZany
import Derived.Test.YbulkcupaFmtZsay
import Derived.BigRegion
namespace Go.Proofs.YbulkcupaFmt
open Go.RowKit Go.Extern.Stop Go.Stop Go.Extern


set_option maxRecDepth 100000 in
set_option maxHeartbeats 4000000 in
theorem zcell_two (g p c off : Nat) (x : Nat → Nat) (w : World) (hg : g < w.heap.size) (hoff : off ≤ 65535) (hb : ∀ j, j < 8 → x j < 256) (hc : ∀ j, j < 8 → w.cell? ⟨g, p + j, none⟩ = some (.int .u8 (x j : Int))) (hd : x 1 / 16 = 15) :
    Calls Ybaf.prog 19 #[.slice (some ⟨g, p, none⟩) (8 : Nat) c, .int .i64 off] w (Zcelled x off w) := by
  obtain ⟨W, hW⟩ : ∃ W, W = w.alloc (.cells #[.string ⟨#[]⟩, .string ⟨#[]⟩, .int .u16 0, .int .u8 0, .int .u16 0] 38) := ⟨_, rfl⟩
  have bW : Below w.heap.size w W := by rw [hW]; go_grown
  have r0 : Box W w.heap.size [.string ⟨#[]⟩, .string ⟨#[]⟩, .int .u16 0, .int .u8 0, .int .u16 0] := by rw [hW]; exact Box.new w _ _
  have cW : ∀ j, j < 8 → W.cell? ⟨g, p + j, none⟩ = some (.int .u8 (x j : Int)) := fun j hj => (bW.cell (p := ⟨g, p + j, none⟩) hg).trans (hc j hj)
  have c0 := cW 0 (by omega)
  have c1 := cW 1 (by omega)
  have c2 := cW 2 (by omega)
  have b0 := hb 0 (by omega)
  have b1 := hb 1 (by omega)
  have b2 := hb 2 (by omega)
  have a0 := and15 _ b0
  have a1 := and15 _ b1
  have a2 := and15 _ b2
  rw [Nat.add_zero] at c0
  have gW : g < W.heap.size := by have := r0.lt; omega
  have wW : w.heap.size < W.heap.size := r0.lt
  have hK : nDig (x 1) = 5 := by simp [nDig, hd]
  have hdl : ∀ j, dig (x 0) (x 1) (x 2) j < 256 := fun j => dig_lt _ _ _ j b0 b1 b2
  -- behind the first statement
  obtain ⟨U, hU⟩ : ∃ U, U = (W.alloc (.cells #[.int .u8 ((x 0 : Int) % 16), .int .u8 ((x 0 : Int) / 16), .int .u8 ((x 1 : Int) % 16), .int .u8 ((x 2 : Int) % 16), .int .u8 ((x 2 : Int) / 16), .int .u8 ((x 1 : Int) / 16)] 93)).drew := ⟨_, rfl⟩
  have bU : Below W.heap.size W U := by rw [hU]; go_grown
  have dU : Box U W.heap.size [.int .u8 (dig (x 0) (x 1) (x 2) 0 : Int), .int .u8 (dig (x 0) (x 1) (x 2) 1 : Int), .int .u8 (dig (x 0) (x 1) (x 2) 2 : Int), .int .u8 (dig (x 0) (x 1) (x 2) 3 : Int), .int .u8 (dig (x 0) (x 1) (x 2) 4 : Int), .int .u8 (dig (x 0) (x 1) (x 2) 5 : Int)] := by
    rw [hU]
    have := (Box.new W #[.int .u8 ((x 0 : Int) % 16), .int .u8 ((x 0 : Int) / 16), .int .u8 ((x 1 : Int) % 16), .int .u8 ((x 2 : Int) % 16), .int .u8 ((x 2 : Int) / 16), .int .u8 ((x 1 : Int) / 16)] 93).kept (S := fun _ => False) ((Kept.refl _ _).drew) id
    simpa [dig] using this
  have zU : W.heap.size < U.heap.size := dU.lt
  -- behind the second
  obtain ⟨V, hV⟩ : ∃ V, V = U.alloc (.cells #[.int .i64 0, .int .i64 0, .int .i64 1, .int .i64 2, .int .i64 2, .int .i64 1] 94) := ⟨_, rfl⟩
  have bV : Below U.heap.size U V := by rw [hV]; go_grown
  have dV := dU.below bV
  have oV : Box V U.heap.size [.int .i64 0, .int .i64 0, .int .i64 1, .int .i64 2, .int .i64 2, .int .i64 1] := by rw [hV]; exact Box.new U _ _
  have zV : U.heap.size < V.heap.size := oV.lt
  have f5 : (U.alloc (.cells #[.int .i64 0, .int .i64 0, .int .i64 1, .int .i64 2, .int .i64 2, .int .i64 1] 94)).cell? ⟨W.heap.size, 5, none⟩ = some (.int .u8 (dig (x 0) (x 1) (x 2) 5 : Int)) := by rw [← hV]; exact dV.cell 5 _ rfl
  have hD5 : dig (x 0) (x 1) (x 2) 5 = 15 := by simpa [dig] using hd
  have hD : ∀ j, j < 6 → V.cell? ⟨W.heap.size, j, none⟩ = some (.int .u8 (dig (x 0) (x 1) (x 2) j : Int)) := fun j hj => by
    obtain rfl | rfl | rfl | rfl | rfl | rfl : j = 0 ∨ j = 1 ∨ j = 2 ∨ j = 3 ∨ j = 4 ∨ j = 5 := by omega
    all_goals exact dV.cell _ _ rfl
  have hO : ∀ j, j < 6 → V.cell? ⟨U.heap.size, j, none⟩ = some (.int .i64 (octet j : Int)) := fun j hj => by
    obtain rfl | rfl | rfl | rfl | rfl | rfl : j = 0 ∨ j = 1 ∨ j = 2 ∨ j = 3 ∨ j = 4 ∨ j = 5 := by omega
    all_goals exact oV.cell _ _ rfl
  have bwU : Below w.heap.size w U := bW.trans (bU.mono (by omega))
  have bwV : Below w.heap.size w V := bwU.trans (bV.mono (by omega))
  have rV : Box V w.heap.size [.string ⟨#[]⟩, .string ⟨#[]⟩, .int .u16 0, .int .u8 0, .int .u16 0] := (r0.below bU).below bV
  have cV : ∀ j, j < 8 → V.cell? ⟨g, p + j, none⟩ = some (.int .u8 (x j : Int)) := fun j hj => (bwV.cell (p := ⟨g, p + j, none⟩) hg).trans (hc j hj)
  have H1 : Hid (∀ j, j < 6 → V.cell? ⟨W.heap.size, j, none⟩ = some (.int .u8 (dig (x 0) (x 1) (x 2) j : Int))) := hD
  have H2 : Hid (∀ j, j < 6 → V.cell? ⟨U.heap.size, j, none⟩ = some (.int .i64 (octet j : Int))) := hO
  have H3 : Hid (∀ j, j < 8 → V.cell? ⟨g, p + j, none⟩ = some (.int .u8 (x j : Int))) := cV
  have H4 : Hid (∀ j, dig (x 0) (x 1) (x 2) j < 256) := hdl
  have H5 : Hid (∀ j, j < 8 → x j < 256) := hb
  clear hD hO cV hdl hc dV dU oV
  go_enter Ybaf.func19, Ybaf.ntmps19
  go_wp2_with fail
  rw [← hW]
  clear hW
  refine reg1_any g p c x W _ _ _ _ _ _ _ _ _ _ _ _ _ _ _ _ _ _ _ _ _ _ _ _ _ _ _ _ _ _ _ _ _ _ _ _ _ _ _ _ _ _ _ _ _ _ _ _ _ _ _ _ _ _ _ _ _ _ _ _ _ _ _ _ _ _ _ _ _ _ _ _ _ _ _ _ _ _ _ _ _ _ _ _ _ _ _ _ _ _ _ _ _ _ _ _ _ _ _ _ _ _ _ _ _ _ _ _ _ _ _ _ gW (fun j hj => cW j (by omega)) (fun j hj => hb j (by omega)) ?_
  intro u13 u14 u15 u16 u17 u18 u19 u20 u21 u22 u23 u24 u25 u26 u27 u28 u29 u30 u31 u32 u33 u34 u35 u36 u37
  rw [← hU]
  clear hU c0 c1 c2 a0 a1 a2 cW hb
  go_wp2_with fail
  rw [← hV]
  clear hV f5
  go_loop [10] (fun i => ∃ k : Nat, k ≤ 5 ∧ i = .int .i64 k ∧ Hid (∀ j, j < k → dig (x 0) (x 1) (x 2) j ≤ 9)) (fun i => 5 - (intOf i).toNat)
  case atStart => exact ⟨0, by omega, rfl, fun j h => by omega⟩
  case round =>
    obtain ⟨k, hk, rfl, hall⟩ := hrel
    by_cases hlt : k < 5
    · have c3 := H1.out k (by omega)
      have hdk := H4.out k
      by_cases hbad : 9 < dig (x 0) (x 1) (x 2) k
      · have o1 := H2.out k (by omega)
        have ho : octet k ≤ 2 := by unfold octet; split <;> omega
        have hbd := badDig_some (x0 := x 0) (x1 := x 1) (x2 := x 2) (i := k) (by omega) hbad hall.out
        have u0 := rV.cell 0 _ rfl
        have u1 := rV.cell 1 _ rfl
        have u2 := rV.cell 2 _ rfl
        have u3 := rV.cell 3 _ rfl
        have u4 := rV.cell 4 _ rfl
        have uf := rV.frz
        have rX := rV.set [.string ⟨#[]⟩, .string ⟨#[]⟩, .int .u16 0, .int .u8 0, .int .u16 0] rfl
        have hbb := bwV.trans ((Kept.setCells (S := (· = w.heap.size)) w.heap.size [.string ⟨#[]⟩, .string ⟨#[]⟩, .int .u16 0, .int .u8 0, .int .u16 0] 0 (Kept.refl _ V) (.inl rfl)).drew.below (B := w.heap.size) (fun k h => by omega) (by omega))
        go_wp2_with fail
        go_region
        all_goals (go_wp2_with fail)
        all_goals
          have y0 := rX.cell 0 _ rfl
          have y1 := rX.cell 1 _ rfl
          have y2 := rX.cell 2 _ rfl
          have y3 := rX.cell 3 _ rfl
          have y4 := rX.cell 4 _ rfl
          simp only [World.setCells, Nat.zero_add, Nat.reduceAdd] at y0 y1 y2 y3 y4
          refine bodyPost_ret (by simp [results, Ybaf.results19, go_sem, y0, y1, y2, y3, y4]; rfl) (by simp [go_sem]) ?_
          refine ⟨?_, hbb⟩
          rw [hbd]
          simp
      · go_wp2_with fail
        go_round
        case rel => exact ⟨k + 1, by omega, by go_num, fun j hj => by
          by_cases e : j = k
          · subst e; omega
          · exact hall.out j (by omega)⟩
        case measure => simp [intOf]; omega
    · obtain rfl : k = 5 := by omega
      have hbd := badDig_none (x0 := x 0) (x1 := x 1) (x2 := x 2) (fun j hj => hall.out j (by omega))
      have d0 := H1.out 0 (by omega)
      have d1 := H1.out 1 (by omega)
      have d2 := H1.out 2 (by omega)
      have d3 := H1.out 3 (by omega)
      have d4 := H1.out 4 (by omega)
      have l0 := hall.out 0 (by omega)
      have l1 := hall.out 1 (by omega)
      have l2 := hall.out 2 (by omega)
      have l3 := hall.out 3 (by omega)
      have l4 := hall.out 4 (by omega)
      -- the MCC's bytes, and the MNC's first two
      obtain ⟨A, hA⟩ : ∃ A, A = V.alloc (.cells #[.int .u8 (48 + (dig (x 0) (x 1) (x 2) 0 : Int)), .int .u8 (48 + (dig (x 0) (x 1) (x 2) 1 : Int)), .int .u8 (48 + (dig (x 0) (x 1) (x 2) 2 : Int))] 5) := ⟨_, rfl⟩
      have bA : Below V.heap.size V A := by rw [hA]; go_grown
      have xA : Box A V.heap.size [.int .u8 (48 + (dig (x 0) (x 1) (x 2) 0 : Int)), .int .u8 (48 + (dig (x 0) (x 1) (x 2) 1 : Int)), .int .u8 (48 + (dig (x 0) (x 1) (x 2) 2 : Int))] := by rw [hA]; exact Box.new V _ _
      have hcv1 := back30 V.heap.size 3 3 (fun j => 48 + dig (x 0) (x 1) (x 2) j) A (fun j hj => by have := hall.out j (by omega); omega) (fun j hj => by
        obtain rfl | rfl | rfl : j = 0 ∨ j = 1 ∨ j = 2 := by omega
        · simpa using xA.cell 0 _ rfl
        · simpa using xA.cell 1 _ rfl
        · simpa using xA.cell 2 _ rfl)
      obtain ⟨B, hB⟩ : ∃ B, B = A.alloc (.cells #[.int .u8 (48 + (dig (x 0) (x 1) (x 2) 3 : Int)), .int .u8 (48 + (dig (x 0) (x 1) (x 2) 4 : Int))] 5) := ⟨_, rfl⟩
      have bB : Below A.heap.size A B := by rw [hB]; go_grown
      have xB : Box B A.heap.size [.int .u8 (48 + (dig (x 0) (x 1) (x 2) 3 : Int)), .int .u8 (48 + (dig (x 0) (x 1) (x 2) 4 : Int))] := by rw [hB]; exact Box.new A _ _
      have zA := xA.lt
      have zB := xB.lt
      have e3 := (bA.cell (p := ⟨W.heap.size, 3, none⟩) (by show W.heap.size < V.heap.size; omega)).trans d3
      have e4 := (bA.cell (p := ⟨W.heap.size, 4, none⟩) (by show W.heap.size < V.heap.size; omega)).trans d4
      obtain ⟨E, hEB⟩ : ∃ E, E = B := ⟨_, rfl⟩
      have bBE : Below V.heap.size V E := by rw [hEB]; exact bA.trans (bB.mono (by omega))
      have hE : ∀ j, j < 2 → E.cell? ⟨A.heap.size, j, none⟩ = some (.int .u8 ((48 + dig (x 0) (x 1) (x 2) (3 + j) : Nat) : Int)) := fun j hj => by
        rw [hEB]
        obtain rfl | rfl : j = 0 ∨ j = 1 := by omega
        · simpa using xB.cell 0 _ rfl
        · simpa using xB.cell 1 _ rfl
      have bwE : Below w.heap.size w E := bwV.trans (bBE.mono (by omega))
      have rE : Box E w.heap.size [.string ⟨#[]⟩, .string ⟨#[]⟩, .int .u16 0, .int .u8 0, .int .u16 0] := rV.below bBE
      have cE : ∀ j, j < 8 → E.cell? ⟨g, p + j, none⟩ = some (.int .u8 (x j : Int)) := fun j hj => ((bBE).cell (p := ⟨g, p + j, none⟩) (by show g < V.heap.size; omega)).trans (H3.out j hj)
      have rX := rE.set (cellOf x) rfl
      have hbb := bwE.trans ((Kept.setCells (S := (· = w.heap.size)) w.heap.size (cellOf x) 0 (Kept.refl _ E) (.inl rfl)).drew.below (B := w.heap.size) (fun k h => by omega) (by have := bwE.size; omega))
      have hall3 : ∀ j, j < 2 → 48 + dig (x 0) (x 1) (x 2) (3 + j) < 256 := fun j hj => by have := hall.out (3 + j) (by omega); omega
      have Z1 : Hid (∀ j, j < 8 → E.cell? ⟨g, p + j, none⟩ = some (.int .u8 (x j : Int))) := cE
      have Z2 : Hid (∀ j, j < 2 → E.cell? ⟨A.heap.size, j, none⟩ = some (.int .u8 ((48 + dig (x 0) (x 1) (x 2) (3 + j) : Nat) : Int))) := hE
      have Z3 : Hid (∀ j, j < 2 → 48 + dig (x 0) (x 1) (x 2) (3 + j) < 256) := hall3
      clear cE hE hall3 xA xB rV hall H1 H2 H3 H4
      have eA.heap.size : A.heap.size = V.heap.size + 1 := by rw [hA]; simp
      rw [eA.heap.size] at Z2
      clear eA.heap.size
      rw [hA] at hcv1 e3 e4
      go_wp2_with fail
      rw [← hA, ← hB, ← hEB]
      clear hA hB hEB hcv1 e3 e4 bB bBE bA
      refine reg15_any g p c w.heap.size (V.heap.size + 1) 2 2 _ (fun j => 48 + dig (x 0) (x 1) (x 2) (3 + j)) x E _ _ _ _ _ _ _ _ _ _ _ _ _ _ _ _ _ _ _ _ _ _ _ _ _ _ _ _ _ _ _ _ _ _ _ _ _ _ _ _ _ _ _ _ _ _ _ _ _ _ _ _ _ _ _ _ _ _ _ _ _ _ _ _ _ _ _ _ _ _ _ _ _ _ _ _ _ _ _ _ _ _ _ _ _ _ _ _ _ _ _ _ _ _ _ _ _ _ _ _ _ _ _ _ _ _ _ _ _ Z1.out H5.out Z3.out Z2.out rE ?_
      intro u83 u84 u85 u86 u87 u88 u89 u90 u91 u92 u93 u94 u95 u96 u97 u98 u99 u100 u101 u102 u103 u104 u105 u106 u107 u108 u109 u110 u111
      go_wp2_with fail
      have y0 := rX.cell 0 _ rfl
      have y1 := rX.cell 1 _ rfl
      have y2 := rX.cell 2 _ rfl
      have y3 := rX.cell 3 _ rfl
      have y4 := rX.cell 4 _ rfl
      simp only [cellOf, hK, World.setCells, Nat.zero_add, Nat.reduceAdd, Nat.reduceSub] at y0 y1 y2 y3 y4
      refine bodyPost_ret (by simp [results, Ybaf.results19, go_sem, World.setCells, y0, y1, y2, y3, y4]; rfl) (by simp [go_sem]) ?_
      refine ⟨by rw [hbd]; simp [cellOf, hK], ?_⟩
      simpa only [cellOf, hK, Nat.reduceSub] using hbb

set_option maxRecDepth 100000 in
set_option maxHeartbeats 4000000 in
theorem zcell_three (g p c off : Nat) (x : Nat → Nat) (w : World) (hg : g < w.heap.size) (hoff : off ≤ 65535) (hb : ∀ j, j < 8 → x j < 256) (hc : ∀ j, j < 8 → w.cell? ⟨g, p + j, none⟩ = some (.int .u8 (x j : Int))) (hd : x 1 / 16 ≠ 15) :
    Calls Ybaf.prog 19 #[.slice (some ⟨g, p, none⟩) (8 : Nat) c, .int .i64 off] w (Zcelled x off w) := by
  obtain ⟨W, hW⟩ : ∃ W, W = w.alloc (.cells #[.string ⟨#[]⟩, .string ⟨#[]⟩, .int .u16 0, .int .u8 0, .int .u16 0] 38) := ⟨_, rfl⟩
  have bW : Below w.heap.size w W := by rw [hW]; go_grown
  have r0 : Box W w.heap.size [.string ⟨#[]⟩, .string ⟨#[]⟩, .int .u16 0, .int .u8 0, .int .u16 0] := by rw [hW]; exact Box.new w _ _
  have cW : ∀ j, j < 8 → W.cell? ⟨g, p + j, none⟩ = some (.int .u8 (x j : Int)) := fun j hj => (bW.cell (p := ⟨g, p + j, none⟩) hg).trans (hc j hj)
  have c0 := cW 0 (by omega)
  have c1 := cW 1 (by omega)
  have c2 := cW 2 (by omega)
  have b0 := hb 0 (by omega)
  have b1 := hb 1 (by omega)
  have b2 := hb 2 (by omega)
  have a0 := and15 _ b0
  have a1 := and15 _ b1
  have a2 := and15 _ b2
  rw [Nat.add_zero] at c0
  have gW : g < W.heap.size := by have := r0.lt; omega
  have wW : w.heap.size < W.heap.size := r0.lt
  have hK : nDig (x 1) = 6 := by simp [nDig, hd]
  have hdl : ∀ j, dig (x 0) (x 1) (x 2) j < 256 := fun j => dig_lt _ _ _ j b0 b1 b2
  -- behind the first statement
  obtain ⟨U, hU⟩ : ∃ U, U = (W.alloc (.cells #[.int .u8 ((x 0 : Int) % 16), .int .u8 ((x 0 : Int) / 16), .int .u8 ((x 1 : Int) % 16), .int .u8 ((x 2 : Int) % 16), .int .u8 ((x 2 : Int) / 16), .int .u8 ((x 1 : Int) / 16)] 93)).drew := ⟨_, rfl⟩
  have bU : Below W.heap.size W U := by rw [hU]; go_grown
  have dU : Box U W.heap.size [.int .u8 (dig (x 0) (x 1) (x 2) 0 : Int), .int .u8 (dig (x 0) (x 1) (x 2) 1 : Int), .int .u8 (dig (x 0) (x 1) (x 2) 2 : Int), .int .u8 (dig (x 0) (x 1) (x 2) 3 : Int), .int .u8 (dig (x 0) (x 1) (x 2) 4 : Int), .int .u8 (dig (x 0) (x 1) (x 2) 5 : Int)] := by
    rw [hU]
    have := (Box.new W #[.int .u8 ((x 0 : Int) % 16), .int .u8 ((x 0 : Int) / 16), .int .u8 ((x 1 : Int) % 16), .int .u8 ((x 2 : Int) % 16), .int .u8 ((x 2 : Int) / 16), .int .u8 ((x 1 : Int) / 16)] 93).kept (S := fun _ => False) ((Kept.refl _ _).drew) id
    simpa [dig] using this
  have zU : W.heap.size < U.heap.size := dU.lt
  -- behind the second
  obtain ⟨V, hV⟩ : ∃ V, V = U.alloc (.cells #[.int .i64 0, .int .i64 0, .int .i64 1, .int .i64 2, .int .i64 2, .int .i64 1] 94) := ⟨_, rfl⟩
  have bV : Below U.heap.size U V := by rw [hV]; go_grown
  have dV := dU.below bV
  have oV : Box V U.heap.size [.int .i64 0, .int .i64 0, .int .i64 1, .int .i64 2, .int .i64 2, .int .i64 1] := by rw [hV]; exact Box.new U _ _
  have zV : U.heap.size < V.heap.size := oV.lt
  have f5 : (U.alloc (.cells #[.int .i64 0, .int .i64 0, .int .i64 1, .int .i64 2, .int .i64 2, .int .i64 1] 94)).cell? ⟨W.heap.size, 5, none⟩ = some (.int .u8 (dig (x 0) (x 1) (x 2) 5 : Int)) := by rw [← hV]; exact dV.cell 5 _ rfl
  have hD5 : dig (x 0) (x 1) (x 2) 5 ≠ 15 := by simpa [dig] using hd
  have hD : ∀ j, j < 6 → V.cell? ⟨W.heap.size, j, none⟩ = some (.int .u8 (dig (x 0) (x 1) (x 2) j : Int)) := fun j hj => by
    obtain rfl | rfl | rfl | rfl | rfl | rfl : j = 0 ∨ j = 1 ∨ j = 2 ∨ j = 3 ∨ j = 4 ∨ j = 5 := by omega
    all_goals exact dV.cell _ _ rfl
  have hO : ∀ j, j < 6 → V.cell? ⟨U.heap.size, j, none⟩ = some (.int .i64 (octet j : Int)) := fun j hj => by
    obtain rfl | rfl | rfl | rfl | rfl | rfl : j = 0 ∨ j = 1 ∨ j = 2 ∨ j = 3 ∨ j = 4 ∨ j = 5 := by omega
    all_goals exact oV.cell _ _ rfl
  have bwU : Below w.heap.size w U := bW.trans (bU.mono (by omega))
  have bwV : Below w.heap.size w V := bwU.trans (bV.mono (by omega))
  have rV : Box V w.heap.size [.string ⟨#[]⟩, .string ⟨#[]⟩, .int .u16 0, .int .u8 0, .int .u16 0] := (r0.below bU).below bV
  have cV : ∀ j, j < 8 → V.cell? ⟨g, p + j, none⟩ = some (.int .u8 (x j : Int)) := fun j hj => (bwV.cell (p := ⟨g, p + j, none⟩) hg).trans (hc j hj)
  have H1 : Hid (∀ j, j < 6 → V.cell? ⟨W.heap.size, j, none⟩ = some (.int .u8 (dig (x 0) (x 1) (x 2) j : Int))) := hD
  have H2 : Hid (∀ j, j < 6 → V.cell? ⟨U.heap.size, j, none⟩ = some (.int .i64 (octet j : Int))) := hO
  have H3 : Hid (∀ j, j < 8 → V.cell? ⟨g, p + j, none⟩ = some (.int .u8 (x j : Int))) := cV
  have H4 : Hid (∀ j, dig (x 0) (x 1) (x 2) j < 256) := hdl
  have H5 : Hid (∀ j, j < 8 → x j < 256) := hb
  clear hD hO cV hdl hc dV dU oV
  go_enter Ybaf.func19, Ybaf.ntmps19
  go_wp2_with fail
  rw [← hW]
  clear hW
  refine reg1_any g p c x W _ _ _ _ _ _ _ _ _ _ _ _ _ _ _ _ _ _ _ _ _ _ _ _ _ _ _ _ _ _ _ _ _ _ _ _ _ _ _ _ _ _ _ _ _ _ _ _ _ _ _ _ _ _ _ _ _ _ _ _ _ _ _ _ _ _ _ _ _ _ _ _ _ _ _ _ _ _ _ _ _ _ _ _ _ _ _ _ _ _ _ _ _ _ _ _ _ _ _ _ _ _ _ _ _ _ _ _ _ _ _ _ gW (fun j hj => cW j (by omega)) (fun j hj => hb j (by omega)) ?_
  intro u13 u14 u15 u16 u17 u18 u19 u20 u21 u22 u23 u24 u25 u26 u27 u28 u29 u30 u31 u32 u33 u34 u35 u36 u37
  rw [← hU]
  clear hU c0 c1 c2 a0 a1 a2 cW hb
  go_wp2_with fail
  rw [← hV]
  clear hV f5
  go_loop [10] (fun i => ∃ k : Nat, k ≤ 6 ∧ i = .int .i64 k ∧ Hid (∀ j, j < k → dig (x 0) (x 1) (x 2) j ≤ 9)) (fun i => 6 - (intOf i).toNat)
  case atStart => exact ⟨0, by omega, rfl, fun j h => by omega⟩
  case round =>
    obtain ⟨k, hk, rfl, hall⟩ := hrel
    by_cases hlt : k < 6
    · have c3 := H1.out k (by omega)
      have hdk := H4.out k
      by_cases hbad : 9 < dig (x 0) (x 1) (x 2) k
      · have o1 := H2.out k (by omega)
        have ho : octet k ≤ 2 := by unfold octet; split <;> omega
        have hbd := badDig_some (x0 := x 0) (x1 := x 1) (x2 := x 2) (i := k) (by omega) hbad hall.out
        have u0 := rV.cell 0 _ rfl
        have u1 := rV.cell 1 _ rfl
        have u2 := rV.cell 2 _ rfl
        have u3 := rV.cell 3 _ rfl
        have u4 := rV.cell 4 _ rfl
        have uf := rV.frz
        have rX := rV.set [.string ⟨#[]⟩, .string ⟨#[]⟩, .int .u16 0, .int .u8 0, .int .u16 0] rfl
        have hbb := bwV.trans ((Kept.setCells (S := (· = w.heap.size)) w.heap.size [.string ⟨#[]⟩, .string ⟨#[]⟩, .int .u16 0, .int .u8 0, .int .u16 0] 0 (Kept.refl _ V) (.inl rfl)).drew.below (B := w.heap.size) (fun k h => by omega) (by omega))
        go_wp2_with fail
        go_region
        all_goals (go_wp2_with fail)
        all_goals
          have y0 := rX.cell 0 _ rfl
          have y1 := rX.cell 1 _ rfl
          have y2 := rX.cell 2 _ rfl
          have y3 := rX.cell 3 _ rfl
          have y4 := rX.cell 4 _ rfl
          simp only [World.setCells, Nat.zero_add, Nat.reduceAdd] at y0 y1 y2 y3 y4
          refine bodyPost_ret (by simp [results, Ybaf.results19, go_sem, y0, y1, y2, y3, y4]; rfl) (by simp [go_sem]) ?_
          refine ⟨?_, hbb⟩
          rw [hbd]
          simp
      · go_wp2_with fail
        go_round
        case rel => exact ⟨k + 1, by omega, by go_num, fun j hj => by
          by_cases e : j = k
          · subst e; omega
          · exact hall.out j (by omega)⟩
        case measure => simp [intOf]; omega
    · obtain rfl : k = 6 := by omega
      have hbd := badDig_none (x0 := x 0) (x1 := x 1) (x2 := x 2) (fun j hj => hall.out j (by omega))
      have d0 := H1.out 0 (by omega)
      have d1 := H1.out 1 (by omega)
      have d2 := H1.out 2 (by omega)
      have d3 := H1.out 3 (by omega)
      have d4 := H1.out 4 (by omega)
      have l0 := hall.out 0 (by omega)
      have l1 := hall.out 1 (by omega)
      have l2 := hall.out 2 (by omega)
      have l3 := hall.out 3 (by omega)
      have l4 := hall.out 4 (by omega)
      -- the MCC's bytes, and the MNC's first two
      obtain ⟨A, hA⟩ : ∃ A, A = V.alloc (.cells #[.int .u8 (48 + (dig (x 0) (x 1) (x 2) 0 : Int)), .int .u8 (48 + (dig (x 0) (x 1) (x 2) 1 : Int)), .int .u8 (48 + (dig (x 0) (x 1) (x 2) 2 : Int))] 5) := ⟨_, rfl⟩
      have bA : Below V.heap.size V A := by rw [hA]; go_grown
      have xA : Box A V.heap.size [.int .u8 (48 + (dig (x 0) (x 1) (x 2) 0 : Int)), .int .u8 (48 + (dig (x 0) (x 1) (x 2) 1 : Int)), .int .u8 (48 + (dig (x 0) (x 1) (x 2) 2 : Int))] := by rw [hA]; exact Box.new V _ _
      have hcv1 := back30 V.heap.size 3 3 (fun j => 48 + dig (x 0) (x 1) (x 2) j) A (fun j hj => by have := hall.out j (by omega); omega) (fun j hj => by
        obtain rfl | rfl | rfl : j = 0 ∨ j = 1 ∨ j = 2 := by omega
        · simpa using xA.cell 0 _ rfl
        · simpa using xA.cell 1 _ rfl
        · simpa using xA.cell 2 _ rfl)
      obtain ⟨B, hB⟩ : ∃ B, B = A.alloc (.cells #[.int .u8 (48 + (dig (x 0) (x 1) (x 2) 3 : Int)), .int .u8 (48 + (dig (x 0) (x 1) (x 2) 4 : Int))] 5) := ⟨_, rfl⟩
      have bB : Below A.heap.size A B := by rw [hB]; go_grown
      have xB : Box B A.heap.size [.int .u8 (48 + (dig (x 0) (x 1) (x 2) 3 : Int)), .int .u8 (48 + (dig (x 0) (x 1) (x 2) 4 : Int))] := by rw [hB]; exact Box.new A _ _
      have zA := xA.lt
      have zB := xB.lt
      have e3 := (bA.cell (p := ⟨W.heap.size, 3, none⟩) (by show W.heap.size < V.heap.size; omega)).trans d3
      have e4 := (bA.cell (p := ⟨W.heap.size, 4, none⟩) (by show W.heap.size < V.heap.size; omega)).trans d4
      have d5 := H1.out 5 (by omega)
      have l5 := hall.out 5 (by omega)
      have e5 : B.cell? ⟨W.heap.size, 5, none⟩ = some (.int .u8 (dig (x 0) (x 1) (x 2) 5 : Int)) := (bB.cell (p := ⟨W.heap.size, 5, none⟩) (by show W.heap.size < A.heap.size; omega)).trans ((bA.cell (p := ⟨W.heap.size, 5, none⟩) (by show W.heap.size < V.heap.size; omega)).trans d5)
      obtain ⟨C, hC⟩ : ∃ C, C = B.alloc (.cells #[.int .u8 (48 + (dig (x 0) (x 1) (x 2) 5 : Int))] 5) := ⟨_, rfl⟩
      have bC : Below B.heap.size B C := by rw [hC]; go_grown
      have xC : Box C B.heap.size [.int .u8 (48 + (dig (x 0) (x 1) (x 2) 5 : Int))] := by rw [hC]; exact Box.new B _ _
      have zC := xC.lt
      have yC := xB.below bC
      obtain ⟨cap, E, hap, hcap, zE, bE, rowE⟩ := append30_grow 30 A.heap.size 2 2 B.heap.size 0 1 1 (fun j => 48 + (dig (x 0) (x 1) (x 2) (3 + j) : Int)) (fun _ => 48 + (dig (x 0) (x 1) (x 2) 5 : Int)) C (fun j hj => by
        obtain rfl | rfl : j = 0 ∨ j = 1 := by omega
        · exact yC.cell 0 _ rfl
        · exact yC.cell 1 _ rfl) (fun j hj => by
        obtain rfl : j = 0 := by omega
        exact xC.cell 0 _ rfl) (by omega) (by omega)
      have bVC : Below V.heap.size V C := bA.trans ((bB.mono (by omega)).trans (bC.mono (by omega)))
      have bBE : Below V.heap.size V E := bVC.trans (bE.mono (by omega))
      have hE : ∀ j, j < 3 → E.cell? ⟨C.heap.size, j, none⟩ = some (.int .u8 ((48 + dig (x 0) (x 1) (x 2) (3 + j) : Nat) : Int)) := fun j hj => by
        have := rowE.cell j (by omega)
        rw [Nat.zero_add] at this
        rw [this]
        obtain rfl | rfl | rfl : j = 0 ∨ j = 1 ∨ j = 2 := by omega
        · simp
        · simp
        · simp
      have bwE : Below w.heap.size w E := bwV.trans (bBE.mono (by omega))
      have rE : Box E w.heap.size [.string ⟨#[]⟩, .string ⟨#[]⟩, .int .u16 0, .int .u8 0, .int .u16 0] := rV.below bBE
      have cE : ∀ j, j < 8 → E.cell? ⟨g, p + j, none⟩ = some (.int .u8 (x j : Int)) := fun j hj => ((bBE).cell (p := ⟨g, p + j, none⟩) (by show g < V.heap.size; omega)).trans (H3.out j hj)
      have rX := rE.set (cellOf x) rfl
      have hbb := bwE.trans ((Kept.setCells (S := (· = w.heap.size)) w.heap.size (cellOf x) 0 (Kept.refl _ E) (.inl rfl)).drew.below (B := w.heap.size) (fun k h => by omega) (by have := bwE.size; omega))
      have hall3 : ∀ j, j < 3 → 48 + dig (x 0) (x 1) (x 2) (3 + j) < 256 := fun j hj => by have := hall.out (3 + j) (by omega); omega
      have Z1 : Hid (∀ j, j < 8 → E.cell? ⟨g, p + j, none⟩ = some (.int .u8 (x j : Int))) := cE
      have Z2 : Hid (∀ j, j < 3 → E.cell? ⟨C.heap.size, j, none⟩ = some (.int .u8 ((48 + dig (x 0) (x 1) (x 2) (3 + j) : Nat) : Int))) := hE
      have Z3 : Hid (∀ j, j < 3 → 48 + dig (x 0) (x 1) (x 2) (3 + j) < 256) := hall3
      clear cE hE hall3 xA xB rV hall H1 H2 H3 H4
      have eC.heap.size : C.heap.size = V.heap.size + 3 := by rw [hC, hB, hA]; simp
      rw [eC.heap.size] at Z2
      clear eC.heap.size
      clear zE rowE yC xC
      rw [hA] at hcv1 e3 e4
      rw [hB, hA] at e5
      rw [hC, hB, hA] at hap
      simp only [World.size_alloc] at hap
      go_wp2_with (at_builtin; go_must (refine Lib.wpList_append_run _ rfl _ _ 30 30 rfl _ _ rfl rfl _ _ hap ?_))
      clear hap e5 hC hA hB hcv1 e3 e4 bB bBE bA bC bVC bE
      refine reg15_any g p c w.heap.size (V.heap.size + 3) 3 cap _ (fun j => 48 + dig (x 0) (x 1) (x 2) (3 + j)) x E _ _ _ _ _ _ _ _ _ _ _ _ _ _ _ _ _ _ _ _ _ _ _ _ _ _ _ _ _ _ _ _ _ _ _ _ _ _ _ _ _ _ _ _ _ _ _ _ _ _ _ _ _ _ _ _ _ _ _ _ _ _ _ _ _ _ _ _ _ _ _ _ _ _ _ _ _ _ _ _ _ _ _ _ _ _ _ _ _ _ _ _ _ _ _ _ _ _ _ _ _ _ _ _ _ _ _ _ _ Z1.out H5.out Z3.out Z2.out rE ?_
      intro u83 u84 u85 u86 u87 u88 u89 u90 u91 u92 u93 u94 u95 u96 u97 u98 u99 u100 u101 u102 u103 u104 u105 u106 u107 u108 u109 u110 u111
      go_wp2_with fail
      have y0 := rX.cell 0 _ rfl
      have y1 := rX.cell 1 _ rfl
      have y2 := rX.cell 2 _ rfl
      have y3 := rX.cell 3 _ rfl
      have y4 := rX.cell 4 _ rfl
      simp only [cellOf, hK, World.setCells, Nat.zero_add, Nat.reduceAdd, Nat.reduceSub] at y0 y1 y2 y3 y4
      refine bodyPost_ret (by simp [results, Ybaf.results19, go_sem, World.setCells, y0, y1, y2, y3, y4]; rfl) (by simp [go_sem]) ?_
      refine ⟨by rw [hbd]; simp [cellOf, hK], ?_⟩
      simpa only [cellOf, hK, Nat.reduceSub] using hbb

theorem zcell_any (g p c off : Nat) (x : Nat → Nat) (w : World) (hg : g < w.heap.size) (hoff : off ≤ 65535) (hb : ∀ j, j < 8 → x j < 256) (hc : ∀ j, j < 8 → w.cell? ⟨g, p + j, none⟩ = some (.int .u8 (x j : Int))) :
    Calls Ybaf.prog 19 #[.slice (some ⟨g, p, none⟩) (8 : Nat) c, .int .i64 off] w (Zcelled x off w) := by
  by_cases h : x 1 / 16 = 15
  · exact zcell_two g p c off x w hg hoff hb hc h
  · exact zcell_three g p c off x w hg hoff hb hc h
end Go.Proofs.YbulkcupaFmt
