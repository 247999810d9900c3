/-
  digits and DecodePLMN: the two or three digits of an MNC; the first digit that is none.
-/
import Derived.Test.YbulkcupaFmtGrow
namespace Go.Proofs.YbulkcupaFmt
open Go.RowKit Go.Extern.Stop Go.Stop Go.Extern

theorem make30 (n : Nat) (hn : n ≤ 65535) (w : World) : (Instr.makeSlice 30 (.int .i64 (n : Int)) (.int .i64 (n : Int))).run Ybaf.prog w = .ok (.slice (some ⟨w.heap.size, 0, none⟩) n n) (w.alloc (.cells (madeCells #[.int .u8 0] n) 5)) :=
  run_make_row' 30 5 (.int .u8 0) 1 Ybaf.underlying30 info5 rfl .i64 .i64 n (by omega) (by omega) w

/-- The string of n bytes f. -/
def strOf (n : Nat) (f : Nat → Nat) : ByteArray := ⟨((List.range n).map fun j => (f j).toUInt8).toArray⟩

/-- 'string(s)' over n bytes. -/
theorem back30 (g n c : Nat) (f : Nat → Nat) (w : World) (hf : ∀ j, j < n → f j < 256) (h : ∀ j, j < n → w.cell? ⟨g, j, none⟩ = some (.int .u8 (f j : Int))) :
    (convert 30 9 (.slice (some ⟨g, 0, none⟩) n c)).run Ybaf.prog w = .ok (.string (strOf n f)) w := by
  have := run_convert_bytes_back (P := Ybaf.prog) w 30 9 5 ⟨g, 0, none⟩ c ((List.range n).map fun j => (f j).toUInt8) Ybaf.underlying30 Ybaf.underlying5 Ybaf.underlying9 (fun j hj => by
    have hj' : j < n := by simpa using hj
    have e := hf j hj'
    rw [WideShapes.add_plain, Nat.zero_add, h j hj']
    simp
    omega)
  simpa [strOf] using this

theorem Row.set1 {w : World} {g m : Nat} {R : Nat → Int} (h : Row w g 0 m R) {k : Nat} (hk : k < m) (x : Int) : Row (w.setCell ⟨g, k, none⟩ (.int .u8 x)) g 0 m (fun j => if j = k then x else R j) := by
  have h1 := h.stores k 1 (fun _ => x) (by omega)
  rw [Nat.zero_add] at h1
  exact Row.congr (show Row (w.setCell ⟨g, k, none⟩ (.int .u8 x)) g 0 m _ from h1) (fun j _ => by
    by_cases e : j = k
    · subst e; simp
    · rw [if_neg (by omega), if_neg e])

/-- digits, over at most six digits. -/
theorem digits_any (g n c : Nat) (f : Nat → Nat) (w : World) (hg : g < w.heap.size) (hn : n ≤ 6) (hf : ∀ j, j < n → f j < 10) (h : ∀ j, j < n → w.cell? ⟨g, j, none⟩ = some (.int .u8 (f j : Int))) :
    Calls Ybaf.prog 32 #[.slice (some ⟨g, 0, none⟩) n c] w fun e w' => e = .returned (.string (strOf n fun j => 48 + f j)) ∧ Below w.heap.size w w' := by
  have hmk := make30 n (by omega)
  have hr0 := Row.made w 5 n
  generalize hW : w.alloc (.cells (madeCells #[.int .u8 0] n) 5) = W at hr0
  have hbW : Below w.heap.size w W := by rw [← hW]; go_grown
  have hzW : W.heap.size = w.heap.size + 1 := by rw [← hW]; simp
  have hmk' := hmk w
  rw [hW] at hmk'
  clear hmk hW
  go_enter Ybaf.func32, Ybaf.ntmps32
  go_wp2_with fail
  go_loopw [11] (fun i wr => ∃ k : Nat, k ≤ n ∧ i = .int .i64 k ∧ Row wr w.heap.size 0 n (fun j => if j < k then 48 + (f j : Int) else 0) ∧ Below w.heap.size w wr ∧ wr.heap.size = w.heap.size + 1) (fun i _ => n - (intOf i).toNat)
  case atStart => exact ⟨0, Nat.zero_le _, rfl, by simpa using hr0, hbW, hzW⟩
  case round =>
    obtain ⟨k, hk, rfl, hr, hb, hz⟩ := hrel
    by_cases hlt : k < n
    · have c0 := (hb.cell (p := ⟨g, k, none⟩) hg).trans (h k hlt)
      have c1 := hr.cell k hlt
      have c2 := hr.frz k hlt
      rw [Nat.zero_add] at c1 c2
      rw [if_neg (by omega)] at c1
      have hfk := hf k hlt
      clear hr0 hbW h hf
      go_wp2_with fail
      go_roundw
      case rel =>
        refine ⟨k + 1, by omega, by go_num, ?_, by go_grown, by simp [hz]⟩
        refine (hr.set1 hlt (48 + (f k : Int))).congr (fun j _ => ?_)
        by_cases e : j = k
        · subst e; simp
        · by_cases e2 : j < k
          · simp [e, e2, show j < k + 1 by omega]
          · simp [e, e2, show ¬ j < k + 1 by omega]
      case measure => simp [intOf]; omega
    · obtain rfl : k = n := by omega
      have hcv := back30 w.heap.size k k (fun j => 48 + f j) wr (fun j hj => by have := hf j hj; omega) (fun j hj => by
        have := hr.cell j hj
        rw [Nat.zero_add, if_pos hj] at this
        rw [this]; simp)
      clear hr0 hbW h hf
      go_wp2_with fail
      go_returns
      exact ⟨rfl, hb⟩

theorem and15 : ∀ x : Nat, x < 256 → bits .and .u8 (x : Int) 15 = ((x % 16 : Nat) : Int) := by
  have : ∀ x : Fin 256, bits .and .u8 ((x.val : Nat) : Int) 15 = ((x.val % 16 : Nat) : Int) := by decide +kernel
  exact fun x hx => this ⟨x, hx⟩

/-- The digits of a PLMN, in the order in which both readers take them; how many there are; the octet of each. -/
def dig (x0 x1 x2 : Nat) : Nat → Nat
  | 0 => x0 % 16
  | 1 => x0 / 16
  | 2 => x1 % 16
  | 3 => x2 % 16
  | 4 => x2 / 16
  | _ => x1 / 16
def nDig (x1 : Nat) : Nat := if x1 / 16 = 15 then 5 else 6
def octet : Nat → Nat
  | 0 => 0
  | 1 => 0
  | 2 => 1
  | 3 => 2
  | 4 => 2
  | _ => 1
theorem dig_lt (x0 x1 x2 i : Nat) (b0 : x0 < 256) (b1 : x1 < 256) (b2 : x2 < 256) : dig x0 x1 x2 i < 256 := by
  unfold dig; split <;> omega
/-- The first digit that is none. -/
def badDig (x0 x1 x2 : Nat) : Option Nat := (List.range (nDig x1)).find? fun i => decide (9 < dig x0 x1 x2 i)
theorem badDig_some {x0 x1 x2 i : Nat} (hi : i < nDig x1) (h : 9 < dig x0 x1 x2 i) (hj : ∀ j, j < i → dig x0 x1 x2 j ≤ 9) : badDig x0 x1 x2 = some i := by
  unfold badDig
  rw [List.find?_range_eq_some]
  exact ⟨by simpa using h, by simpa using hi, fun j hj' => by have := hj j hj'; simp; omega⟩
theorem badDig_none {x0 x1 x2 : Nat} (hj : ∀ j, j < nDig x1 → dig x0 x1 x2 j ≤ 9) : badDig x0 x1 x2 = none := by
  unfold badDig
  rw [List.find?_range_eq_none]
  intro j hj'
  have := hj j (by simpa using hj')
  simp; omega

/-- What the package's table of octets holds. -/
def Table (w : World) : Prop := 2 < w.heap.size ∧ ∀ i, i < 6 → w.cell? ⟨2, i, none⟩ = some (.int .i64 (octet i : Int))

theorem stored2 {U : World} {b : Nat} {a0 a1 : Value} (x0 x1 : Value) (h0 : U.cell? ⟨b, 0, none⟩ = some a0) (h1 : U.cell? ⟨b, 1, none⟩ = some a1) :
    ((U.setCell ⟨b, 0, none⟩ x0).setCell ⟨b, 1, none⟩ x1).cell? ⟨b, 0, none⟩ = some x0 ∧ ((U.setCell ⟨b, 0, none⟩ x0).setCell ⟨b, 1, none⟩ x1).cell? ⟨b, 1, none⟩ = some x1 :=
  ⟨(World.cell?_setCell_other _ ⟨b, 1, none⟩ ⟨b, 0, none⟩ _ (by simp)).trans (World.cell?_setCell_same U ⟨b, 0, none⟩ _ h0), World.cell?_setCell_same _ ⟨b, 1, none⟩ _ ((World.cell?_setCell_other U ⟨b, 0, none⟩ ⟨b, 1, none⟩ _ (by simp)).trans h1)⟩

/-- What DecodePLMN leaves. -/
def Plmn (x0 x1 x2 off : Nat) (w : World) (e : Ending) (w' : World) : Prop :=
  (match badDig x0 x1 x2 with
    | none => e = .returned (.tuple #[.agg #[.string (strOf 3 fun j => 48 + dig x0 x1 x2 j), .string (strOf (nDig x1 - 3) fun j => 48 + dig x0 x1 x2 (3 + j))], .nilIface])
    | some i => ∃ q, e = .returned (.tuple #[.agg #[.string ⟨#[]⟩, .string ⟨#[]⟩], .iface 48 (.pointer (some ⟨q, 0, none⟩))]) ∧ w.heap.size ≤ q ∧ w'.cell? ⟨q, 0, none⟩ = some (.int .i64 ((off + octet i : Nat) : Int))) ∧ Below w.heap.size w w'

set_option maxRecDepth 100000 in
set_option maxHeartbeats 1000000 in
theorem plmn_two (F : Interp) (g p n c x0 x1 x2 off : Nat) (w : World) (hF : F.answers w.tape) (hT : Table w) (hg : g < w.heap.size) (hn : 3 ≤ n) (hoff : off ≤ 65535) (b0 : x0 < 256) (b1 : x1 < 256) (b2 : x2 < 256) (hd : x1 / 16 = 15) (c0 : w.cell? ⟨g, p, none⟩ = some (.int .u8 (x0 : Int))) (c1 : w.cell? ⟨g, p + 1, none⟩ = some (.int .u8 (x1 : Int))) (c2 : w.cell? ⟨g, p + 2, none⟩ = some (.int .u8 (x2 : Int))) :
    Calls Ybaf.prog 31 #[.slice (some ⟨g, p, none⟩) n c, .int .i64 off] w (Plmn x0 x1 x2 off w) := by
  have e0 : g ≠ w.heap.size := by omega
  have e1 : g ≠ w.heap.size + 1 := by omega
  have e2 : g ≠ w.heap.size + 1 + 1 := by omega
  have a0 := and15 x0 b0
  have a1 := and15 x1 b1
  have a2 := and15 x2 b2
  have n0 : 0 < n := by omega
  have n1 : (1 : Int) < n := by omega
  have n2 : (2 : Int) < n := by omega
  have hK : nDig x1 = 5 := by simp [nDig, hd]
  obtain ⟨W, hW⟩ : ∃ W, W = (((w.alloc (.cells #[.string ⟨#[]⟩, .string ⟨#[]⟩] 34)).alloc (.cells #[.int .u8 ((x0 : Int) % 16), .int .u8 ((x0 : Int) / 16), .int .u8 ((x1 : Int) % 16)] 5)).alloc (.cells #[.int .u8 ((x2 : Int) % 16), .int .u8 ((x2 : Int) / 16)] 5)).drew.drew := ⟨_, rfl⟩
  have zW : W.heap.size = w.heap.size + 3 := by rw [hW]; simp
  have bW : Below w.heap.size w W := by rw [hW]; go_grown
  have d1 : W.cell? ⟨g, p + 1, none⟩ = some (.int .u8 (x1 : Int)) := (bW.cell (p := ⟨g, p + 1, none⟩) hg).trans c1
  have r0 : W.cell? ⟨w.heap.size, 0, none⟩ = some (.string ⟨#[]⟩) ∧ W.cell? ⟨w.heap.size, 1, none⟩ = some (.string ⟨#[]⟩) ∧ W.frozen? ⟨w.heap.size, 0, none⟩ = false ∧ W.frozen? ⟨w.heap.size, 1, none⟩ = false := by
    rw [hW]; exact ⟨by go_simp, by go_simp, by go_simp, by go_simp⟩
  have m3 : ∀ j, j < 3 → W.cell? ⟨w.heap.size + 1, j, none⟩ = some (.int .u8 (dig x0 x1 x2 j : Int)) := fun j hj => by
    rw [hW]
    obtain rfl | rfl | rfl : j = 0 ∨ j = 1 ∨ j = 2 := by omega
    · go_simp; simp [dig]
    · go_simp; simp [dig]
    · go_simp; simp [dig]
  have m2 : ∀ j, j < 2 → W.cell? ⟨w.heap.size + 1 + 1, j, none⟩ = some (.int .u8 (dig x0 x1 x2 (3 + j) : Int)) := fun j hj => by
    rw [hW]
    obtain rfl | rfl : j = 0 ∨ j = 1 := by omega
    · go_simp; simp [dig]
    · go_simp; simp [dig]
  obtain ⟨cap, V, hap, hcap, zV, bWV, rowV⟩ := append30_grow 30 (w.heap.size + 1) 3 3 (w.heap.size + 1 + 1) 0 2 2 (fun j => (dig x0 x1 x2 j : Int)) (fun j => (dig x0 x1 x2 (3 + j) : Int)) W m3 (fun j hj => by rw [Nat.zero_add]; exact m2 j hj) (by omega) (by omega)
  have bV : Below w.heap.size w V := bW.trans (bWV.mono (by omega))
  have kV : Below W.heap.size W V := bWV
  have hTV : ∀ i, i < 6 → V.cell? ⟨2, i, none⟩ = some (.int .i64 (octet i : Int)) := fun i hi => (bV.cell (p := ⟨2, i, none⟩) hT.1).trans (hT.2 i hi)
  have rV : V.cell? ⟨w.heap.size, 0, none⟩ = some (.string ⟨#[]⟩) ∧ V.cell? ⟨w.heap.size, 1, none⟩ = some (.string ⟨#[]⟩) ∧ V.frozen? ⟨w.heap.size, 0, none⟩ = false ∧ V.frozen? ⟨w.heap.size, 1, none⟩ = false :=
    ⟨(kV.cell (p := ⟨w.heap.size, 0, none⟩) (by show w.heap.size < W.heap.size; omega)).trans r0.1, (kV.cell (p := ⟨w.heap.size, 1, none⟩) (by show w.heap.size < W.heap.size; omega)).trans r0.2.1, (kV.frozen (p := ⟨w.heap.size, 0, none⟩) (by show w.heap.size < W.heap.size; omega)).trans r0.2.2.1, (kV.frozen (p := ⟨w.heap.size, 1, none⟩) (by show w.heap.size < W.heap.size; omega)).trans r0.2.2.2⟩
  have tV : F.answers V.tape := by rw [bV.tape]; exact hF
  have m3V : ∀ j, j < 3 → V.cell? ⟨w.heap.size + 1, j, none⟩ = some (.int .u8 (dig x0 x1 x2 j : Int)) := fun j hj => (kV.cell (p := ⟨w.heap.size + 1, j, none⟩) (by show w.heap.size + 1 < W.heap.size; omega)).trans (m3 j hj)
  have m2V : ∀ j, j < 2 → V.cell? ⟨w.heap.size + 1 + 1, j, none⟩ = some (.int .u8 (dig x0 x1 x2 (3 + j) : Int)) := fun j hj => (kV.cell (p := ⟨w.heap.size + 1 + 1, j, none⟩) (by show w.heap.size + 1 + 1 < W.heap.size; omega)).trans (m2 j hj)
  have zW' : w.heap.size + 2 < W.heap.size := by omega
  have zV' : W.heap.size < V.heap.size := by omega
  clear m3 m2 r0 kV zW zV
  go_enter Ybaf.func31, Ybaf.ntmps31
  go_wp2_with fail
  go_region
  go_wp2_with fail
  go_region
  rw [← hW]
  clear hW
  go_wp2_with (at_builtin; go_must (refine Lib.wpList_append_run _ rfl _ _ 30 30 rfl _ _ rfl rfl _ _ hap ?_))
  have hfx : ∀ j, dig x0 x1 x2 j < 256 := fun j => dig_lt x0 x1 x2 j b0 b1 b2
  clear a0 a1 a2 c0 c1 c2 d1 bW
  go_loop [47] (fun i => ∃ k : Nat, k ≤ 5 ∧ i = .int .i64 k ∧ Hid (∀ j, j < k → dig x0 x1 x2 j ≤ 9)) (fun i => 5 - (intOf i).toNat)
  case atStart => exact ⟨0, by omega, rfl, fun j h => by omega⟩
  case round =>
    obtain ⟨k, hk, rfl, hall⟩ := hrel
    by_cases hlt : k < 5
    · have c3 : V.cell? ⟨W.heap.size, k, none⟩ = some (.int .u8 (dig x0 x1 x2 k : Int)) := by
        have := rowV.cell k (by omega)
        rw [Nat.zero_add] at this
        rw [this]
        by_cases h3 : k < 3
        · simp [h3]
        · simp [h3, hlt, show 3 + (k - 3) = k by omega]
      have hdl := hfx k
      by_cases hbad : 9 < dig x0 x1 x2 k
      · have o1 := hTV k (by omega)
        have ho : octet k ≤ 2 := by unfold octet; split <;> omega
        have hbd := badDig_some (x0 := x0) (x1 := x1) (x2 := x2) (i := k) (by omega) hbad hall.out
        clear hTV rowV m3V hap hfx hall
        go_wp2_with fail
        refine (err_digit F _ V.heap.size (dig x0 x1 x2 k) _ (by exact tV) (by go_cell)).mono ?_
        rintro e w2 ⟨t, rfl, rfl⟩
        obtain ⟨U, hU⟩ : ∃ U, U = ((V.alloc (.cells #[.iface 5 (.int .u8 (dig x0 x1 x2 k : Int))] 20)).alloc (.cells #[.int .i64 ((off : Int) + (octet k : Int)), .string t] 52)).drew := ⟨_, rfl⟩
        have bU : Below V.heap.size V U := by rw [hU]; go_grown
        have qU : U.cell? ⟨V.heap.size + 1, 0, none⟩ = some (.int .i64 ((off : Int) + (octet k : Int))) := by rw [hU]; go_simp
        rw [← hU]
        have rU : U.cell? ⟨w.heap.size, 0, none⟩ = some (.string ⟨#[]⟩) ∧ U.cell? ⟨w.heap.size, 1, none⟩ = some (.string ⟨#[]⟩) ∧ U.frozen? ⟨w.heap.size, 0, none⟩ = false ∧ U.frozen? ⟨w.heap.size, 1, none⟩ = false :=
          ⟨(bU.cell (p := ⟨w.heap.size, 0, none⟩) (by show w.heap.size < V.heap.size; omega)).trans rV.1, (bU.cell (p := ⟨w.heap.size, 1, none⟩) (by show w.heap.size < V.heap.size; omega)).trans rV.2.1, (bU.frozen (p := ⟨w.heap.size, 0, none⟩) (by show w.heap.size < V.heap.size; omega)).trans rV.2.2.1, (bU.frozen (p := ⟨w.heap.size, 1, none⟩) (by show w.heap.size < V.heap.size; omega)).trans rV.2.2.2⟩
        clear hU
        obtain ⟨s0, s1⟩ := stored2 (.string ⟨#[]⟩) (.string ⟨#[]⟩) rU.1 rU.2.1
        obtain ⟨u0, u1, v0, v1⟩ := rU
        have hbb : Below w.heap.size w ((U.setCell ⟨w.heap.size, 0, none⟩ (.string ⟨#[]⟩)).setCell ⟨w.heap.size, 1, none⟩ (.string ⟨#[]⟩)) := ((bV.trans (bU.mono (by omega))).setCell (p := ⟨w.heap.size, 0, none⟩) (Nat.le_refl _) _).setCell (p := ⟨w.heap.size, 1, none⟩) (Nat.le_refl _) _
        have hqq : ((U.setCell ⟨w.heap.size, 0, none⟩ (.string ⟨#[]⟩)).setCell ⟨w.heap.size, 1, none⟩ (.string ⟨#[]⟩)).cell? ⟨V.heap.size + 1, 0, none⟩ = some (.int .i64 ((off : Int) + (octet k : Int))) :=
          (World.cell?_setCell_other _ ⟨w.heap.size, 1, none⟩ ⟨V.heap.size + 1, 0, none⟩ _ (by simp <;> omega)).trans ((World.cell?_setCell_other _ ⟨w.heap.size, 0, none⟩ ⟨V.heap.size + 1, 0, none⟩ _ (by simp <;> omega)).trans qU)
        go_wp2_with fail
        refine bodyPost_ret (by simp [results, Ybaf.results31, go_sem, s0, s1]; rfl) rfl ?_
        refine ⟨?_, hbb⟩
        rw [hbd]
        exact ⟨_, rfl, by omega, by rw [hqq]; simp⟩
      · clear hTV rowV m3V hap hfx
        go_wp2_with fail
        go_round
        case rel => exact ⟨k + 1, by omega, by go_num, fun j hj => by
          by_cases e : j = k
          · subst e; omega
          · exact hall.out j (by omega)⟩
        case measure => simp [intOf]; omega
    · obtain rfl : k = 5 := by omega
      have hbd := badDig_none (x0 := x0) (x1 := x1) (x2 := x2) (fun j hj => hall.out j (by omega))
      have hall' := hall.out
      have D1 := digits_any (w.heap.size + 1) 3 3 (dig x0 x1 x2) V (by omega) (by omega) (fun j hj => by have := hall' j (by omega); omega) m3V
      clear hTV rowV hap hfx hall
      go_wp2_with fail
      refine D1.mono ?_
      rintro e V2 ⟨rfl, bV2⟩
      have D2 := digits_any (w.heap.size + 1 + 1) 2 2 (fun j => dig x0 x1 x2 (3 + j)) V2 (by have := bV2.size; omega) (by omega) (fun j hj => by have := hall' (3 + j) (by omega); omega) (fun j hj => (bV2.cell (p := ⟨(w.heap.size + 1 + 1), j, none⟩) (by show (w.heap.size + 1 + 1) < V.heap.size; omega)).trans (m2V j hj))
      clear hall' m3V m2V D1
      go_wp2_with fail
      refine D2.mono ?_
      rintro e U ⟨rfl, bU'⟩
      have zU := bU'.size
      have zV2 := bV2.size
      have bU : Below V.heap.size V U := bV2.trans (bU'.mono bV2.size)
      have rU : U.cell? ⟨w.heap.size, 0, none⟩ = some (.string ⟨#[]⟩) ∧ U.cell? ⟨w.heap.size, 1, none⟩ = some (.string ⟨#[]⟩) ∧ U.frozen? ⟨w.heap.size, 0, none⟩ = false ∧ U.frozen? ⟨w.heap.size, 1, none⟩ = false :=
        ⟨(bU.cell (p := ⟨w.heap.size, 0, none⟩) (by show w.heap.size < V.heap.size; omega)).trans rV.1, (bU.cell (p := ⟨w.heap.size, 1, none⟩) (by show w.heap.size < V.heap.size; omega)).trans rV.2.1, (bU.frozen (p := ⟨w.heap.size, 0, none⟩) (by show w.heap.size < V.heap.size; omega)).trans rV.2.2.1, (bU.frozen (p := ⟨w.heap.size, 1, none⟩) (by show w.heap.size < V.heap.size; omega)).trans rV.2.2.2⟩
      obtain ⟨s0, s1⟩ := stored2 (.string (strOf 3 fun j => 48 + dig x0 x1 x2 j)) (.string (strOf 2 fun j => 48 + dig x0 x1 x2 (3 + j))) rU.1 rU.2.1
      obtain ⟨u0, u1, v0, v1⟩ := rU
      have hbb : Below w.heap.size w ((U.setCell ⟨w.heap.size, 0, none⟩ (.string (strOf 3 fun j => 48 + dig x0 x1 x2 j))).setCell ⟨w.heap.size, 1, none⟩ (.string (strOf 2 fun j => 48 + dig x0 x1 x2 (3 + j)))) := ((bV.trans (bU.mono (by omega))).setCell (p := ⟨w.heap.size, 0, none⟩) (Nat.le_refl _) _).setCell (p := ⟨w.heap.size, 1, none⟩) (Nat.le_refl _) _
      clear D2 bU bU' bV2
      go_wp2_with fail
      refine bodyPost_ret (by simp [results, Ybaf.results31, go_sem, s0, s1]; rfl) rfl ?_
      refine ⟨?_, hbb⟩
      rw [hbd, hK]

set_option maxRecDepth 100000 in
set_option maxHeartbeats 1000000 in
theorem plmn_three (F : Interp) (g p n c x0 x1 x2 off : Nat) (w : World) (hF : F.answers w.tape) (hT : Table w) (hg : g < w.heap.size) (hn : 3 ≤ n) (hoff : off ≤ 65535) (b0 : x0 < 256) (b1 : x1 < 256) (b2 : x2 < 256) (hd : x1 / 16 ≠ 15) (c0 : w.cell? ⟨g, p, none⟩ = some (.int .u8 (x0 : Int))) (c1 : w.cell? ⟨g, p + 1, none⟩ = some (.int .u8 (x1 : Int))) (c2 : w.cell? ⟨g, p + 2, none⟩ = some (.int .u8 (x2 : Int))) :
    Calls Ybaf.prog 31 #[.slice (some ⟨g, p, none⟩) n c, .int .i64 off] w (Plmn x0 x1 x2 off w) := by
  have e0 : g ≠ w.heap.size := by omega
  have e1 : g ≠ w.heap.size + 1 := by omega
  have e2 : g ≠ w.heap.size + 1 + 1 := by omega
  have a0 := and15 x0 b0
  have a1 := and15 x1 b1
  have a2 := and15 x2 b2
  have n0 : 0 < n := by omega
  have n1 : (1 : Int) < n := by omega
  have n2 : (2 : Int) < n := by omega
  have hK : nDig x1 = 6 := by simp [nDig, hd]
  obtain ⟨W, hW⟩ : ∃ W, W = (((w.alloc (.cells #[.string ⟨#[]⟩, .string ⟨#[]⟩] 34)).alloc (.cells #[.int .u8 ((x0 : Int) % 16), .int .u8 ((x0 : Int) / 16), .int .u8 ((x1 : Int) % 16)] 5)).alloc (.cells #[.int .u8 ((x2 : Int) % 16), .int .u8 ((x2 : Int) / 16)] 5)).drew.drew := ⟨_, rfl⟩
  have zW : W.heap.size = w.heap.size + 3 := by rw [hW]; simp
  have bW : Below w.heap.size w W := by rw [hW]; go_grown
  have d1 : W.cell? ⟨g, p + 1, none⟩ = some (.int .u8 (x1 : Int)) := (bW.cell (p := ⟨g, p + 1, none⟩) hg).trans c1
  have r0 : W.cell? ⟨w.heap.size, 0, none⟩ = some (.string ⟨#[]⟩) ∧ W.cell? ⟨w.heap.size, 1, none⟩ = some (.string ⟨#[]⟩) ∧ W.frozen? ⟨w.heap.size, 0, none⟩ = false ∧ W.frozen? ⟨w.heap.size, 1, none⟩ = false := by
    rw [hW]; exact ⟨by go_simp, by go_simp, by go_simp, by go_simp⟩
  have m3 : ∀ j, j < 3 → W.cell? ⟨w.heap.size + 1, j, none⟩ = some (.int .u8 (dig x0 x1 x2 j : Int)) := fun j hj => by
    rw [hW]
    obtain rfl | rfl | rfl : j = 0 ∨ j = 1 ∨ j = 2 := by omega
    · go_simp; simp [dig]
    · go_simp; simp [dig]
    · go_simp; simp [dig]
  have m2 : ∀ j, j < 2 → W.cell? ⟨w.heap.size + 1 + 1, j, none⟩ = some (.int .u8 (dig x0 x1 x2 (3 + j) : Int)) := fun j hj => by
    rw [hW]
    obtain rfl | rfl : j = 0 ∨ j = 1 := by omega
    · go_simp; simp [dig]
    · go_simp; simp [dig]
  obtain ⟨Wb, hWb⟩ : ∃ Wb, Wb = W.alloc (.cells #[.int .u8 ((x1 : Int) / 16)] 5) := ⟨_, rfl⟩
  have bWb : Below W.heap.size W Wb := by rw [hWb]; go_grown
  have zWb : Wb.heap.size = W.heap.size + 1 := by rw [hWb]; simp
  have hw0 : Wb.cell? ⟨W.heap.size, 0 + 0, none⟩ = some (.int .u8 ((x1 / 16 : Nat) : Int)) := by rw [hWb]; go_simp
  obtain ⟨cap1, V1, hap1, hcap1, zV1, bV1, rowV1⟩ := append30_grow 30 (w.heap.size + 1 + 1) 2 2 W.heap.size 0 1 1 (fun j => (dig x0 x1 x2 (3 + j) : Int)) (fun _ => ((x1 / 16 : Nat) : Int)) Wb (fun j hj => (bWb.cell (p := ⟨w.heap.size + 1 + 1, j, none⟩) (by show w.heap.size + 1 + 1 < W.heap.size; omega)).trans (m2 j hj)) (fun j hj => by rw [show j = 0 by omega]; exact hw0) (by omega) (by omega)
  have bWV1 : Below W.heap.size W V1 := bWb.trans (bV1.mono (by omega))
  have m3V1 : ∀ j, j < 3 → V1.cell? ⟨Wb.heap.size, j, none⟩ = some (.int .u8 (dig x0 x1 x2 (3 + j) : Int)) := fun j hj => by
    have := rowV1.cell j (by omega)
    rw [Nat.zero_add] at this
    rw [this]
    by_cases h2 : j < 2
    · simp [h2]
    · obtain rfl : j = 2 := by omega
      simp [dig]
  obtain ⟨cap, V, hap, hcap, zV, bWV, rowV⟩ := append30_grow 30 (w.heap.size + 1) 3 3 Wb.heap.size 0 3 cap1 (fun j => (dig x0 x1 x2 j : Int)) (fun j => (dig x0 x1 x2 (3 + j) : Int)) V1 (fun j hj => (bWV1.cell (p := ⟨w.heap.size + 1, j, none⟩) (by show w.heap.size + 1 < W.heap.size; omega)).trans (m3 j hj)) (fun j hj => by rw [Nat.zero_add]; exact m3V1 j hj) (by omega) (by omega)
  have bV : Below w.heap.size w V := (bW.trans (bWV1.mono (by omega))).trans (bWV.mono (by have := bWV1.size; omega))
  have kV : Below W.heap.size W V := bWV1.trans (bWV.mono bWV1.size)
  have hTV : ∀ i, i < 6 → V.cell? ⟨2, i, none⟩ = some (.int .i64 (octet i : Int)) := fun i hi => (bV.cell (p := ⟨2, i, none⟩) hT.1).trans (hT.2 i hi)
  have rV : V.cell? ⟨w.heap.size, 0, none⟩ = some (.string ⟨#[]⟩) ∧ V.cell? ⟨w.heap.size, 1, none⟩ = some (.string ⟨#[]⟩) ∧ V.frozen? ⟨w.heap.size, 0, none⟩ = false ∧ V.frozen? ⟨w.heap.size, 1, none⟩ = false :=
    ⟨(kV.cell (p := ⟨w.heap.size, 0, none⟩) (by show w.heap.size < W.heap.size; omega)).trans r0.1, (kV.cell (p := ⟨w.heap.size, 1, none⟩) (by show w.heap.size < W.heap.size; omega)).trans r0.2.1, (kV.frozen (p := ⟨w.heap.size, 0, none⟩) (by show w.heap.size < W.heap.size; omega)).trans r0.2.2.1, (kV.frozen (p := ⟨w.heap.size, 1, none⟩) (by show w.heap.size < W.heap.size; omega)).trans r0.2.2.2⟩
  have tV : F.answers V.tape := by rw [bV.tape]; exact hF
  have m3V : ∀ j, j < 3 → V.cell? ⟨w.heap.size + 1, j, none⟩ = some (.int .u8 (dig x0 x1 x2 j : Int)) := fun j hj => (kV.cell (p := ⟨w.heap.size + 1, j, none⟩) (by show w.heap.size + 1 < W.heap.size; omega)).trans (m3 j hj)
  have m2V : ∀ j, j < 3 → V.cell? ⟨Wb.heap.size, j, none⟩ = some (.int .u8 (dig x0 x1 x2 (3 + j) : Int)) := fun j hj => (bWV.cell (p := ⟨Wb.heap.size, j, none⟩) (by show Wb.heap.size < V1.heap.size; omega)).trans (m3V1 j hj)
  have zb0 : W.heap.size < Wb.heap.size := by omega
  have zb : Wb.heap.size < V1.heap.size := by omega
  have zb2 : V1.heap.size < V.heap.size := by omega
  have hap1' : (Builtin.append_ #[30, 30] 30 #[.slice (some ⟨w.heap.size + 1 + 1, 0, none⟩) (2 : Nat) (2 : Nat), .slice (some ⟨W.heap.size, 0, none⟩) (1 : Nat) (1 : Nat)]).run Ybaf.prog (W.alloc (.cells #[.int .u8 ((x1 : Int) / 16)] 5)) = .ok (.slice (some ⟨Wb.heap.size, 0, none⟩) (3 : Nat) cap1) V1 := by rw [← hWb]; exact hap1
  clear m3V1 hap1 hWb zWb zV1 rowV1
  have zW' : w.heap.size + 2 < W.heap.size := by omega
  have zV' : W.heap.size < V.heap.size := by omega
  clear m3 m2 r0 kV zW zV
  go_enter Ybaf.func31, Ybaf.ntmps31
  go_wp2_with fail
  go_region
  go_wp2_with fail
  go_region
  rw [← hW]
  clear hW
  go_wp2_with (at_builtin; go_must (first | (refine Lib.wpList_append_run _ rfl _ _ 30 30 rfl _ _ rfl rfl _ _ hap1' ?_; clear hap1') | refine Lib.wpList_append_run _ rfl _ _ 30 30 rfl _ _ rfl rfl _ _ hap ?_))
  have hfx : ∀ j, dig x0 x1 x2 j < 256 := fun j => dig_lt x0 x1 x2 j b0 b1 b2
  clear a0 a1 a2 c0 c1 c2 d1 bW
  go_loop [47] (fun i => ∃ k : Nat, k ≤ 6 ∧ i = .int .i64 k ∧ Hid (∀ j, j < k → dig x0 x1 x2 j ≤ 9)) (fun i => 6 - (intOf i).toNat)
  case atStart => exact ⟨0, by omega, rfl, fun j h => by omega⟩
  case round =>
    obtain ⟨k, hk, rfl, hall⟩ := hrel
    by_cases hlt : k < 6
    · have c3 : V.cell? ⟨V1.heap.size, k, none⟩ = some (.int .u8 (dig x0 x1 x2 k : Int)) := by
        have := rowV.cell k (by omega)
        rw [Nat.zero_add] at this
        rw [this]
        by_cases h3 : k < 3
        · simp [h3]
        · simp [h3, hlt, show 3 + (k - 3) = k by omega]
      have hdl := hfx k
      by_cases hbad : 9 < dig x0 x1 x2 k
      · have o1 := hTV k (by omega)
        have ho : octet k ≤ 2 := by unfold octet; split <;> omega
        have hbd := badDig_some (x0 := x0) (x1 := x1) (x2 := x2) (i := k) (by omega) hbad hall.out
        clear hTV rowV m3V hap hfx hall
        go_wp2_with fail
        refine (err_digit F _ V.heap.size (dig x0 x1 x2 k) _ (by exact tV) (by go_cell)).mono ?_
        rintro e w2 ⟨t, rfl, rfl⟩
        obtain ⟨U, hU⟩ : ∃ U, U = ((V.alloc (.cells #[.iface 5 (.int .u8 (dig x0 x1 x2 k : Int))] 20)).alloc (.cells #[.int .i64 ((off : Int) + (octet k : Int)), .string t] 52)).drew := ⟨_, rfl⟩
        have bU : Below V.heap.size V U := by rw [hU]; go_grown
        have qU : U.cell? ⟨V.heap.size + 1, 0, none⟩ = some (.int .i64 ((off : Int) + (octet k : Int))) := by rw [hU]; go_simp
        rw [← hU]
        have rU : U.cell? ⟨w.heap.size, 0, none⟩ = some (.string ⟨#[]⟩) ∧ U.cell? ⟨w.heap.size, 1, none⟩ = some (.string ⟨#[]⟩) ∧ U.frozen? ⟨w.heap.size, 0, none⟩ = false ∧ U.frozen? ⟨w.heap.size, 1, none⟩ = false :=
          ⟨(bU.cell (p := ⟨w.heap.size, 0, none⟩) (by show w.heap.size < V.heap.size; omega)).trans rV.1, (bU.cell (p := ⟨w.heap.size, 1, none⟩) (by show w.heap.size < V.heap.size; omega)).trans rV.2.1, (bU.frozen (p := ⟨w.heap.size, 0, none⟩) (by show w.heap.size < V.heap.size; omega)).trans rV.2.2.1, (bU.frozen (p := ⟨w.heap.size, 1, none⟩) (by show w.heap.size < V.heap.size; omega)).trans rV.2.2.2⟩
        clear hU
        obtain ⟨s0, s1⟩ := stored2 (.string ⟨#[]⟩) (.string ⟨#[]⟩) rU.1 rU.2.1
        obtain ⟨u0, u1, v0, v1⟩ := rU
        have hbb : Below w.heap.size w ((U.setCell ⟨w.heap.size, 0, none⟩ (.string ⟨#[]⟩)).setCell ⟨w.heap.size, 1, none⟩ (.string ⟨#[]⟩)) := ((bV.trans (bU.mono (by omega))).setCell (p := ⟨w.heap.size, 0, none⟩) (Nat.le_refl _) _).setCell (p := ⟨w.heap.size, 1, none⟩) (Nat.le_refl _) _
        have hqq : ((U.setCell ⟨w.heap.size, 0, none⟩ (.string ⟨#[]⟩)).setCell ⟨w.heap.size, 1, none⟩ (.string ⟨#[]⟩)).cell? ⟨V.heap.size + 1, 0, none⟩ = some (.int .i64 ((off : Int) + (octet k : Int))) :=
          (World.cell?_setCell_other _ ⟨w.heap.size, 1, none⟩ ⟨V.heap.size + 1, 0, none⟩ _ (by simp <;> omega)).trans ((World.cell?_setCell_other _ ⟨w.heap.size, 0, none⟩ ⟨V.heap.size + 1, 0, none⟩ _ (by simp <;> omega)).trans qU)
        go_wp2_with fail
        refine bodyPost_ret (by simp [results, Ybaf.results31, go_sem, s0, s1]; rfl) rfl ?_
        refine ⟨?_, hbb⟩
        rw [hbd]
        exact ⟨_, rfl, by omega, by rw [hqq]; simp⟩
      · clear hTV rowV m3V hap hfx
        go_wp2_with fail
        go_round
        case rel => exact ⟨k + 1, by omega, by go_num, fun j hj => by
          by_cases e : j = k
          · subst e; omega
          · exact hall.out j (by omega)⟩
        case measure => simp [intOf]; omega
    · obtain rfl : k = 6 := by omega
      have hbd := badDig_none (x0 := x0) (x1 := x1) (x2 := x2) (fun j hj => hall.out j (by omega))
      have hall' := hall.out
      have D1 := digits_any (w.heap.size + 1) 3 3 (dig x0 x1 x2) V (by omega) (by omega) (fun j hj => by have := hall' j (by omega); omega) m3V
      clear hTV rowV hap hfx hall
      go_wp2_with fail
      refine D1.mono ?_
      rintro e V2 ⟨rfl, bV2⟩
      have D2 := digits_any Wb.heap.size 3 cap1 (fun j => dig x0 x1 x2 (3 + j)) V2 (by have := bV2.size; omega) (by omega) (fun j hj => by have := hall' (3 + j) (by omega); omega) (fun j hj => (bV2.cell (p := ⟨Wb.heap.size, j, none⟩) (by show Wb.heap.size < V.heap.size; omega)).trans (m2V j hj))
      clear hall' m3V m2V D1
      go_wp2_with fail
      refine D2.mono ?_
      rintro e U ⟨rfl, bU'⟩
      have zU := bU'.size
      have zV2 := bV2.size
      have bU : Below V.heap.size V U := bV2.trans (bU'.mono bV2.size)
      have rU : U.cell? ⟨w.heap.size, 0, none⟩ = some (.string ⟨#[]⟩) ∧ U.cell? ⟨w.heap.size, 1, none⟩ = some (.string ⟨#[]⟩) ∧ U.frozen? ⟨w.heap.size, 0, none⟩ = false ∧ U.frozen? ⟨w.heap.size, 1, none⟩ = false :=
        ⟨(bU.cell (p := ⟨w.heap.size, 0, none⟩) (by show w.heap.size < V.heap.size; omega)).trans rV.1, (bU.cell (p := ⟨w.heap.size, 1, none⟩) (by show w.heap.size < V.heap.size; omega)).trans rV.2.1, (bU.frozen (p := ⟨w.heap.size, 0, none⟩) (by show w.heap.size < V.heap.size; omega)).trans rV.2.2.1, (bU.frozen (p := ⟨w.heap.size, 1, none⟩) (by show w.heap.size < V.heap.size; omega)).trans rV.2.2.2⟩
      obtain ⟨s0, s1⟩ := stored2 (.string (strOf 3 fun j => 48 + dig x0 x1 x2 j)) (.string (strOf 3 fun j => 48 + dig x0 x1 x2 (3 + j))) rU.1 rU.2.1
      obtain ⟨u0, u1, v0, v1⟩ := rU
      have hbb : Below w.heap.size w ((U.setCell ⟨w.heap.size, 0, none⟩ (.string (strOf 3 fun j => 48 + dig x0 x1 x2 j))).setCell ⟨w.heap.size, 1, none⟩ (.string (strOf 3 fun j => 48 + dig x0 x1 x2 (3 + j)))) := ((bV.trans (bU.mono (by omega))).setCell (p := ⟨w.heap.size, 0, none⟩) (Nat.le_refl _) _).setCell (p := ⟨w.heap.size, 1, none⟩) (Nat.le_refl _) _
      clear D2 bU bU' bV2
      go_wp2_with fail
      refine bodyPost_ret (by simp [results, Ybaf.results31, go_sem, s0, s1]; rfl) rfl ?_
      refine ⟨?_, hbb⟩
      rw [hbd, hK]

theorem plmn_any (F : Interp) (g p n c x0 x1 x2 off : Nat) (w : World) (hF : F.answers w.tape) (hT : Table w) (hg : g < w.heap.size) (hn : 3 ≤ n) (hoff : off ≤ 65535) (b0 : x0 < 256) (b1 : x1 < 256) (b2 : x2 < 256) (c0 : w.cell? ⟨g, p, none⟩ = some (.int .u8 (x0 : Int))) (c1 : w.cell? ⟨g, p + 1, none⟩ = some (.int .u8 (x1 : Int))) (c2 : w.cell? ⟨g, p + 2, none⟩ = some (.int .u8 (x2 : Int))) :
    Calls Ybaf.prog 31 #[.slice (some ⟨g, p, none⟩) n c, .int .i64 off] w (Plmn x0 x1 x2 off w) := by
  by_cases hd : x1 / 16 = 15
  · exact plmn_two F g p n c x0 x1 x2 off w hF hT hg hn hoff b0 b1 b2 hd c0 c1 c2
  · exact plmn_three F g p n c x0 x1 x2 off w hF hT hg hn hoff b0 b1 b2 hd c0 c1 c2
end Go.Proofs.YbulkcupaFmt
