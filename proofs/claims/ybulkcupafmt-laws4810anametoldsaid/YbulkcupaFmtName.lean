/-
  LawS4810AName: extensionName by its two ways (in range; out of range, by fmt.Sprintf), and the law's walk.
-/
import Derived.Test.YbulkcupaFmtRows
import Derived.Test.YbulkcupaFmtFacts
import Derived.WalkKit
import Derived.WalkSpells
import Derived.WalkLawsBesides
import Derived.Below
import Derived.WalkSmall
import Derived.Laws.IdiomCopy
import Derived.Deep.OwnRows
import Derived.Laws.CopyRow
import Derived.Laws.CopyOwn
import Derived.Deep.QuietTactic
import Derived.BigQuiet
import Derived.Deep.LoopGhost
namespace Go.Proofs.YbulkcupaFmt
open Go.RowKit Go.Extern.Stop Go.Stop Go.Extern

theorem ext_in (nm : ByteArray) (i1 i2 : Int) (b1 b2 : Bool) (g n k : Nat) (s : ByteArray) (w : World) (hk : k < n) (hk2 : k ≤ 255) (hg : g < w.heap.size) (hc : w.cell? ⟨g, k, none⟩ = some (.string s)) :
    Calls Ybaf.prog 6 #[.agg #[.string nm, .int .u8 i1, .slice (some ⟨g, 0, none⟩) n n, .bool b1, .int .u8 i2, .bool b2], .int .u8 (k : Int)] w fun e w' => e = .returned (.string s) ∧ Below w.heap.size w w' := by
  go_enter Ybaf.func6, Ybaf.ntmps6
  go_wp2
  go_ret
  exact ⟨rfl, (Below.refl _ w).alloc (Nat.le_refl _) _⟩

theorem ext_out (F : Interp) (nm : ByteArray) (i1 i2 : Int) (b1 b2 : Bool) (a : Option Addr) (n c k : Nat) (w : World) (hF : F.answers w.tape) (hk : ¬ k < n) (hk2 : k ≤ 255) :
    Calls Ybaf.prog 6 #[.agg #[.string nm, .int .u8 i1, .slice a n c, .bool b1, .int .u8 i2, .bool b2], .int .u8 (k : Int)] w fun e w' => (∃ t, e = .returned (.string t)) ∧ Below w.heap.size w w' := by
  have hF' := answers_open hF
  go_enter Ybaf.func6, Ybaf.ntmps6
  go_wp2
  apply rows_value Ybaf.nextTurns
  case hr =>
    go_simp
    exact ⟨rfl, rfl⟩
  case h =>
    go_wp2
    go_ret
    exact ⟨⟨_, rfl⟩, (((Below.refl _ w).alloc (Nat.le_refl _) _).alloc (by simp) _).drew⟩

theorem info9 : (Ybaf.prog.info? 9).map (fun i => (i.zero, i.size, i.bytes)) = some (some (.string ByteArray.empty), 1, 16) := by kernel_rfl
theorem size9 : (Ybaf.prog.info? 9).map (·.size) = some 1 := by kernel_rfl

theorem make22 (n : Nat) (hn : n ≤ 1024) (w : World) : (Instr.makeSlice 22 (.int .i64 (n : Int)) (.int .i64 (n : Int))).run Ybaf.prog w = .ok (.slice (some ⟨w.heap.size, 0, none⟩) n n) (w.alloc (.cells (madeCells #[.string ByteArray.empty] n) 9)) :=
  run_make_row' 22 9 (.string ByteArray.empty) 16 Ybaf.underlying22 info9 rfl .i64 .i64 n (by omega) (by omega) w

/-- 'copy(c, names)' into the row that 'make' has just laid. -/
theorem copy22 (ty : TypeId) (b off len cap : Nat) (ss : Nat → ByteArray) (w : World) (hb : b < w.heap.size) (hc : ∀ i, i < len → w.cell? ⟨b, off + i, none⟩ = some (.string (ss i))) :
    ∃ w1, (Builtin.copy_ #[22, 22] ty #[.slice (some ⟨w.heap.size, 0, none⟩) len len, .slice (some ⟨b, off, none⟩) len cap]).run Ybaf.prog (w.alloc (.cells (madeCells #[.string ByteArray.empty] len) 9)) = .ok (goInt len) w1 ∧
      Below w.heap.size w w1 ∧ w1.heap.size = w.heap.size + 1 ∧ ∀ i, i < len → w1.cell? ⟨w.heap.size, i, none⟩ = some (.string (ss i)) := by
  have hg : (w.alloc (.cells (madeCells #[.string ByteArray.empty] len) 9)).heap[w.heap.size]? = some (.cells (madeCells #[.string ByteArray.empty] len) 9 (0, 0)) := (MapKept.heap_alloc w _).1
  have hcell : ∀ i, i < len → (w.alloc (.cells (madeCells #[.string ByteArray.empty] len) 9)).cell? ⟨b, off + i, none⟩ = some (.string (ss i)) := fun i hi =>
    (((Below.refl _ w).alloc (Nat.le_refl _) _).cell (p := ⟨b, off + i, none⟩) hb).trans (hc i hi)
  have hr := run_copy_row (P := Ybaf.prog) (w.alloc (.cells (madeCells #[.string ByteArray.empty] len) 9)) 22 22 ty 9 w.heap.size 0 len len ⟨b, off, none⟩ len cap _ 9 ((List.range len).map fun i => Value.string (ss i)) Ybaf.underlying22 size9 hg (by simp)
    (fun j v hv => by
      simp only [List.getElem?_map, Option.map_eq_some_iff] at hv
      obtain ⟨i, hi, rfl⟩ := hv
      have hj := (List.getElem?_eq_some_iff.1 hi).1
      have hji := (List.getElem?_eq_some_iff.1 hi).2
      simp at hj hji
      subst hji
      rw [WideShapes.add_plain]
      exact hcell j hj)
    (by simp [size_madeCells]) (by simp [Value.oneCell'])
  have hl : ((List.range len).map fun i => Value.string (ss i)).length = len := by simp
  rw [hl] at hr
  refine ⟨_, hr, ?_, ?_, ?_⟩
  · exact below_setRow ((Below.refl _ w).alloc (Nat.le_refl _) _) (Nat.le_refl _) _
  · simp [World.setRow]
  · intro i hi
    have := setRow_heap (w.alloc (.cells (madeCells #[.string ByteArray.empty] len) 9)) w.heap.size _ (((madeCells #[.string ByteArray.empty] len).toList.take 0 ++ ((List.range len).map fun i => Value.string (ss i)) ++ (madeCells #[.string ByteArray.empty] len).toList.drop (0 + len)).toArray) 9 _ hg
    simp only [World.cell?, this]
    simp
    rw [List.getElem?_append_left (by simpa using hi)]
    simp [hi]

theorem neq22 (w : World) (a : Option Addr) (n c : Nat) : (binOp .neq 22 (.slice a n c) (.slice none 0 0)).run Ybaf.prog w = .ok (.bool a.isSome) w := by
  have := run_neq_slice_nil_any (P := Ybaf.prog) w 22 9 a n c 0 0 Ybaf.underlying22
  simpa using this

set_option maxHeartbeats 1000000 in
theorem name_some (F : Interp) (b off len cap k : Nat) (ss : Nat → ByteArray) (nm : ByteArray) (i1 i2 : Int) (b1 b2 : Bool) (w : World) (hF : F.answers w.tape) (hlen : len ≤ 1024) (hk2 : k ≤ 255) (hb : b < w.heap.size)
    (hc : ∀ i, i < len → w.cell? ⟨b, off + i, none⟩ = some (.string (ss i))) :
    Calls Ybaf.prog 3 #[.slice (some ⟨b, off, none⟩) len cap, .int .u8 (k : Int), .string nm, .int .u8 i1, .bool b1, .int .u8 i2, .bool b2] w fun e w' => e = .returned (.bool true) ∧ Below w.heap.size w w' := by
  have hd : decide (1024 < (len : Int)) = false := by simp; omega
  have hmk := make22 len hlen
  obtain ⟨w1, hcp, hb1, hz1, hc1⟩ := copy22 3 b off len cap ss w hb hc
  have hnq := neq22
  go_enter Ybaf.func3, Ybaf.ntmps3
  go_wp2_with fail
  have key : Calls Ybaf.prog 6 #[.agg #[.string nm, .int .u8 i1, .slice (some ⟨w.heap.size, 0, none⟩) len len, .bool b1, .int .u8 i2, .bool b2], .int .u8 (k : Int)] (w1.alloc (.cells #[.string nm, .int .u8 i1, .slice (some ⟨w.heap.size, 0, none⟩) len len, .bool b1, .int .u8 i2, .bool b2] 24))
      fun e w' => (∃ t, e = .returned (.string t) ∧ (k < len → t = ss k)) ∧ Below (w1.heap.size + 1) (w1.alloc (.cells #[.string nm, .int .u8 i1, .slice (some ⟨w.heap.size, 0, none⟩) len len, .bool b1, .int .u8 i2, .bool b2] 24)) w' := by
    by_cases hkl : k < len
    · refine (ext_in nm i1 i2 b1 b2 w.heap.size len k (ss k) _ hkl hk2 (by simp; omega) ((((Below.refl _ w1).alloc (Nat.le_refl _) _).cell (p := ⟨w.heap.size, k, none⟩) (by simp; omega)).trans (hc1 k hkl))).mono ?_
      rintro e w' ⟨rfl, hb2⟩
      exact ⟨⟨_, rfl, fun _ => rfl⟩, by simpa using hb2⟩
    · refine (ext_out F nm i1 i2 b1 b2 _ len len k _ ?_ hkl hk2).mono ?_
      · show F.answers w1.tape
        rw [hb1.tape]
        exact hF
      rintro e w' ⟨⟨t, rfl⟩, hb2⟩
      exact ⟨⟨t, rfl, fun h => absurd h hkl⟩, by simpa using hb2⟩
  refine key.mono ?_
  clear key
  rintro e w2 ⟨⟨t, rfl, ht⟩, hb2⟩
  have Ht : Hid (k < len → t = ss k) := ht
  clear ht
  have hbel : Below w.heap.size w w2 := (hb1.alloc (by omega) _).trans (hb2.mono (by omega))
  have n2 : ∀ i, i < len → w2.cell? ⟨w.heap.size, i, none⟩ = some (.string (ss i)) := fun i hi =>
    (hb2.cell (p := ⟨w.heap.size, i, none⟩) (by simp; omega)).trans ((((Below.refl _ w1).alloc (Nat.le_refl _) _).cell (p := ⟨w.heap.size, i, none⟩) (by simp; omega)).trans (hc1 i hi))
  have m2 : ∀ i, i < len → w2.cell? ⟨b, off + i, none⟩ = some (.string (ss i)) := fun i hi => (hbel.cell (p := ⟨b, off + i, none⟩) hb).trans (hc i hi)
  clear hcp hc1 hc hb2 hb1 hz1 hmk hF
  go_wp2_with fail
  go_loopw [18] (fun i wr => ∃ n q : Nat, n ≤ len ∧ i = .int .i64 n ∧ wr = w2.drewN q) (fun i _ => len - (intOf i).toNat)
  case atStart => exact ⟨0, 0, Nat.zero_le _, rfl, rfl⟩
  case round =>
    obtain ⟨n, q, hn, rfl, rfl⟩ := hrel
    by_cases hlt : n < len
    · have c0 := n2 n hlt
      have c1 := m2 n hlt
      have hlt' : (n : Int) < (len : Int) := by omega
      have h0' : (0 : Int) ≤ (n : Int) := by omega
      go_wp2_with fail
      go_quiet (fail)
      go_wp2
      go_roundw
      case rel => exact ⟨n + 1, q + nq, by omega, by go_num, by simp [World.drewN]⟩
      case measure => simp [intOf]; omega
    · go_wp2_with fail
      · go_ret
        exact ⟨by rw [Ht.out ‹k < len›]; simp, below_drewN hbel q⟩
      · go_ret
        exact ⟨rfl, below_drewN hbel q⟩

theorem make22_0 (w : World) : (Instr.makeSlice 22 (.int .i64 0) (.int .i64 0)).run Ybaf.prog w = .ok (.slice (some ⟨w.heap.size, 0, none⟩) 0 0) (w.alloc (.cells #[] 9)) := by kernel_rfl
theorem copy22_0 (d a : Option Addr) (cap : Nat) (w : World) : (Builtin.copy_ #[22, 22] 3 #[.slice d 0 0, .slice a 0 cap]).run Ybaf.prog w = .ok (.int .i64 0) w :=
  run_copy_none (P := Ybaf.prog) w 22 22 3 9 d a 0 0 0 cap Ybaf.underlying22 size9 rfl

/-- A slice that is not nil and has no element. -/
theorem name_empty (F : Interp) (ad : Addr) (cap k : Nat) (nm : ByteArray) (i1 i2 : Int) (b1 b2 : Bool) (w : World) (hF : F.answers w.tape) (hk2 : k ≤ 255) :
    Calls Ybaf.prog 3 #[.slice (some ad) (0 : Nat) cap, .int .u8 (k : Int), .string nm, .int .u8 i1, .bool b1, .int .u8 i2, .bool b2] w fun e w' => e = .returned (.bool true) ∧ Below w.heap.size w w' := by
  have hmk := make22_0
  have hcp := fun W : World => copy22_0 (some ⟨w.heap.size, 0, none⟩) (some ad) cap W
  have hnq := neq22
  go_enter Ybaf.func3, Ybaf.ntmps3
  go_wp2_with fail
  refine (ext_out F nm i1 i2 b1 b2 _ 0 0 k _ (by exact hF) (by omega) hk2).mono ?_
  rintro e w2 ⟨⟨t, rfl⟩, hb2⟩
  have hbel : Below w.heap.size w w2 := (((Below.refl _ w).alloc (Nat.le_refl _) _).alloc (by simp) _).trans (hb2.mono (by simp; omega))
  go_wp2_with fail
  refine wp_loop_rounds 1 ?_
  rw [rounds_succ]
  go_wp2_with fail
  go_ret
  exact ⟨rfl, hbel⟩


theorem name_nil (F : Interp) (k : Nat) (nm : ByteArray) (i1 i2 : Int) (b1 b2 : Bool) (w : World) (hF : F.answers w.tape) (hk2 : k ≤ 255) :
    Calls Ybaf.prog 3 #[.slice none (0 : Nat) (0 : Nat), .int .u8 (k : Int), .string nm, .int .u8 i1, .bool b1, .int .u8 i2, .bool b2] w fun e w' => e = .returned (.bool true) ∧ Below w.heap.size w w' := by
  have hnq := neq22
  go_enter Ybaf.func3, Ybaf.ntmps3
  go_wp2_with fail
  refine (ext_out F nm i1 i2 b1 b2 none 0 0 k _ (by exact hF) (by omega) hk2).mono ?_
  rintro e w2 ⟨⟨t, rfl⟩, hb2⟩
  have hbel : Below w.heap.size w w2 := ((Below.refl _ w).alloc (Nat.le_refl _) _).trans (hb2.mono (by simp))
  go_wp2_with fail
  refine wp_loop_rounds 1 ?_
  rw [rounds_succ]
  go_wp2_with fail
  go_ret
  exact ⟨rfl, hbel⟩

theorem name_long (a : Option Addr) (len cap k : Nat) (nm : ByteArray) (i1 i2 : Int) (b1 b2 : Bool) (w : World) (hlen : ¬ len ≤ 1024) (hm : len ≤ maxLen) :
    Calls Ybaf.prog 3 #[.slice a len cap, .int .u8 (k : Int), .string nm, .int .u8 i1, .bool b1, .int .u8 i2, .bool b2] w fun e w' => e = .returned (.bool true) ∧ Below w.heap.size w w' := by
  unfold maxLen at hm
  have hd : decide (1024 < (len : Int)) = true := by simp; omega
  go_enter Ybaf.func3, Ybaf.ntmps3
  go_wp2
  go_ret
  exact ⟨rfl, Below.refl _ _⟩
end Go.Proofs.YbulkcupaFmt
