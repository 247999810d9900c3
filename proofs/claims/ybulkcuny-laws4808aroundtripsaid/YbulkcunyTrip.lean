/-
  The walks of the round trip: HasSuffix and CutSuffix at a suffix of one byte, leader.mark and leader.unmark with 'Below'.
-/
import Derived.Test.YbulkcunyWalks
import Derived.WalkKit
import Derived.WalkSpells
import Derived.ProofKit
import Derived.Below
namespace Go.Proofs.Ybulkcuny
open Go.ChangeShapes Go.WideShapes Go.ChangeAt Go.RowKit
theorem mark_below (a : Int) (w : World) : Calls Yba.prog 5 #[.agg #[], .agg #[.int .u32 a]] w fun e w' => e = .returned (.string (if a == 1 then ⟨#[43]⟩ else ⟨#[45]⟩)) ∧ Below w.heap.size w w' := by
  have he := eq27 a 1
  go_enter Yba.func5, Yba.ntmps5
  go_wp2_with fail
  go_region_with (go_at_call 6; refine (leader1 _).mono ?_; rintro e w' ⟨rfl, rfl⟩)
  all_goals go_wp2
  all_goals (go_ret; exact ⟨rfl, by repeat (first | exact Below.refl _ _ | apply Below.drew | refine Below.alloc ?_ (by simp <;> omega) _)⟩)
theorem hasSuf (s : ByteArray) (n : Nat) (x q : UInt8) (w : World) (hn : n ≤ 4096) (hs : s.size = n + 1) (he : s.extract n (n + 1) = ⟨#[x]⟩) :
    Calls Yba.prog 11 #[.string s, .string ⟨#[q]⟩] w fun e w' => e = .returned (.bool (x == q)) ∧ w' = w := by
  go_enter Yba.func11, Yba.ntmps11
  go_wp2
  go_ret
  exact ⟨rfl, rfl⟩
theorem cutYesIn (s p : ByteArray) (n : Nat) (q : UInt8) (w : World) (hn : n ≤ 4096) (hs : s.size = n + 1) (he : s.extract n (n + 1) = ⟨#[q]⟩) (hp : s.extract 0 n = p) :
    Calls Yba.prog 10 #[.string s, .string ⟨#[q]⟩] w fun e w' => e = .returned (.tuple #[.string p, .bool true]) ∧ w' = w := by
  go_enter Yba.func10, Yba.ntmps10
  go_wp2_with (go_at_call 11; refine (hasSuf s n q q _ hn hs he).mono ?_; rintro e w' ⟨rfl, rfl⟩)
  go_ret2
  exact ⟨rfl, rfl⟩
theorem cutNoIn (s : ByteArray) (n : Nat) (x q : UInt8) (w : World) (hn : n ≤ 4096) (hs : s.size = n + 1) (he : s.extract n (n + 1) = ⟨#[x]⟩) (hx : (x == q) = false) :
    Calls Yba.prog 10 #[.string s, .string ⟨#[q]⟩] w fun e w' => e = .returned (.tuple #[.string s, .bool false]) ∧ w' = w := by
  go_enter Yba.func10, Yba.ntmps10
  go_wp2_with (go_at_call 11; refine (hasSuf s n x q _ hn hs he).mono ?_; rintro e w' ⟨rfl, rfl⟩)
  go_ret2
  exact ⟨rfl, rfl⟩
theorem cutYes (s p : ByteArray) (n : Nat) (q : UInt8) (w : World) (hn : n ≤ 4096) (hs : s.size = n + 1) (he : s.extract n (n + 1) = ⟨#[q]⟩) (hp : s.extract 0 n = p) :
    Calls Yba.prog 9 #[.string s, .string ⟨#[q]⟩] w fun e w' => e = .returned (.tuple #[.string p, .bool true]) ∧ w' = w := by
  go_enter Yba.func9, Yba.ntmps9
  go_wp2_with (go_at_call 10; refine (cutYesIn s p n q _ hn hs he hp).mono ?_; rintro e w' ⟨rfl, rfl⟩)
  go_ret2
  exact ⟨rfl, rfl⟩
theorem cutNo (s : ByteArray) (n : Nat) (x q : UInt8) (w : World) (hn : n ≤ 4096) (hs : s.size = n + 1) (he : s.extract n (n + 1) = ⟨#[x]⟩) (hx : (x == q) = false) :
    Calls Yba.prog 9 #[.string s, .string ⟨#[q]⟩] w fun e w' => e = .returned (.tuple #[.string s, .bool false]) ∧ w' = w := by
  go_enter Yba.func9, Yba.ntmps9
  go_wp2_with (go_at_call 10; refine (cutNoIn s n x q _ hn hs he hx).mono ?_; rintro e w' ⟨rfl, rfl⟩)
  go_ret2
  exact ⟨rfl, rfl⟩
/-- Behind "+": the prefix, the answer true. -/
theorem unmark1 (s p : ByteArray) (n : Nat) (w : World) (hn : n ≤ 4096) (hs : s.size = n + 1) (he : s.extract n (n + 1) = ⟨#[43]⟩) (hp : s.extract 0 n = p) :
    Calls Yba.prog 7 #[.agg #[], .string s] w fun e w' => e = .returned (.tuple #[.string p, .agg #[.int .u32 1], .bool true]) ∧ Below w.heap.size w w' := by
  go_enter Yba.func7, Yba.ntmps7
  go_wp2_with (first | (go_at_call 9; refine (cutYes s p n 43 _ hn hs he hp).mono ?_; rintro e w' ⟨rfl, rfl⟩) | (go_at_call 6; refine (leader1 _).mono ?_; rintro e w' ⟨rfl, rfl⟩))
  exact bodyPost_ret (v := .tuple #[.string p, .agg #[.int .u32 1], .bool true]) (by simp [results, Yba.results7, go_sem]) rfl ⟨rfl, by repeat (first | exact Below.refl _ _ | apply Below.drew | refine Below.alloc ?_ (by simp <;> omega) _)⟩
/-- Behind "-": the prefix, the answer false. -/
theorem unmark0 (s p : ByteArray) (n : Nat) (w : World) (hn : n ≤ 4096) (hs : s.size = n + 1) (he : s.extract n (n + 1) = ⟨#[45]⟩) (hp : s.extract 0 n = p) :
    Calls Yba.prog 7 #[.agg #[], .string s] w fun e w' => e = .returned (.tuple #[.string p, .agg #[.int .u32 0], .bool true]) ∧ Below w.heap.size w w' := by
  go_enter Yba.func7, Yba.ntmps7
  go_wp2_with fail
  refine (cutNo s n 45 43 _ hn hs he (by decide)).mono ?_
  rintro e w' ⟨rfl, rfl⟩
  go_wp2_with fail
  refine (cutYes s p n 45 _ hn hs he hp).mono ?_
  rintro e w' ⟨rfl, rfl⟩
  go_wp2_with (go_at_call 6; refine (leader0 _).mono ?_; rintro e w' ⟨rfl, rfl⟩)
  exact bodyPost_ret (v := .tuple #[.string p, .agg #[.int .u32 0], .bool true]) (by simp [results, Yba.results7, go_sem]) rfl ⟨rfl, by repeat (first | exact Below.refl _ _ | apply Below.drew | refine Below.alloc ?_ (by simp <;> omega) _)⟩
theorem size_snoc (p : ByteArray) (q : UInt8) : (p ++ ⟨#[q]⟩ : ByteArray).size = p.size + 1 := by simp [ByteArray.size_append]; rfl
theorem last_snoc (p : ByteArray) (q : UInt8) : (p ++ ⟨#[q]⟩ : ByteArray).extract p.size (p.size + 1) = ⟨#[q]⟩ := by
  apply ByteArray.ext
  obtain ⟨d⟩ := p
  rw [show (ByteArray.mk d).size = d.size from rfl]
  simp only [ByteArray.data_extract, ByteArray.data_append]
  apply Array.ext'
  simp
theorem init_snoc (p : ByteArray) (q : UInt8) : (p ++ ⟨#[q]⟩ : ByteArray).extract 0 p.size = p := by
  apply ByteArray.ext
  simp [ByteArray.data_extract, ByteArray.data_append]
end Go.Proofs.Ybulkcuny
