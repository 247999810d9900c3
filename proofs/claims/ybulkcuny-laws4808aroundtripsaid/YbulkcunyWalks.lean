/-
  The walks that the two laws of this seat share: newAnswer (at the two calls that are made of it), LeaderAnswer, leader.mark.
-/
import Derived.Test.YbulkcunyRows
import Derived.WalkKit
import Derived.ProofKit
import Derived.OpenShut
import Derived.ShutString
import Derived.Deep.QuietTactic
import Derived.BigQuiet
import Derived.Deep.RegionWith
namespace Go.Proofs.Ybulkcuny
open Go.ChangeShapes Go.WideShapes Go.ChangeAt Go.RowKit

theorem newAnswer1 (w : World) : Calls Yba.prog 8 #[.int .u8 0, .int .u32 1] w fun e w' => e = .returned (.agg #[.int .u32 1]) ∧ w' = w.alloc (.cells #[.int .u32 1] 27) := by
  have hb : bits BinOp.or IntKind.u32 0 1 = 1 := by decide
  go_enter Yba.func8, Yba.ntmps8
  go_wp2
  exact bodyPost_ret (v := .agg #[.int .u32 1]) (by simp [results, Yba.results8, go_sem]) rfl ⟨rfl, rfl⟩
theorem newAnswer0 (w : World) : Calls Yba.prog 8 #[.int .u8 0, .int .u32 0] w fun e w' => e = .returned (.agg #[.int .u32 0]) ∧ w' = w.alloc (.cells #[.int .u32 0] 27) := by
  have hb : bits BinOp.or IntKind.u32 0 0 = 0 := by decide
  go_enter Yba.func8, Yba.ntmps8
  go_wp2
  exact bodyPost_ret (v := .agg #[.int .u32 0]) (by simp [results, Yba.results8, go_sem]) rfl ⟨rfl, rfl⟩
theorem leader1 (w : World) : Calls Yba.prog 6 #[.bool true] w fun e w' => e = .returned (.agg #[.int .u32 1]) ∧ w' = (w.alloc (.cells #[.int .u32 1] 27)).alloc (.cells #[.int .u32 1] 27) := by
  go_enter Yba.func6, Yba.ntmps6
  go_wp2_with (go_at_call 8; refine (newAnswer1 _).mono ?_; rintro e w' ⟨rfl, rfl⟩)
  exact bodyPost_ret (v := .agg #[.int .u32 1]) (by simp [results, Yba.results6, go_sem]) rfl ⟨rfl, rfl⟩
theorem leader0 (w : World) : Calls Yba.prog 6 #[.bool false] w fun e w' => e = .returned (.agg #[.int .u32 0]) ∧ w' = (w.alloc (.cells #[.int .u32 0] 27)).alloc (.cells #[.int .u32 0] 27) := by
  go_enter Yba.func6, Yba.ntmps6
  go_wp2_with (go_at_call 8; refine (newAnswer0 _).mono ?_; rintro e w' ⟨rfl, rfl⟩)
  exact bodyPost_ret (v := .agg #[.int .u32 0]) (by simp [results, Yba.results6, go_sem]) rfl ⟨rfl, rfl⟩

theorem eq27 (a b : Int) (w : World) : (binOp .eql 27 (.agg #[.int .u32 a]) (.agg #[.int .u32 b])).run Yba.prog w = .ok (.bool (a == b)) w := by
  go_simp
  cases h : (a == b) <;> simpa using h

theorem mark_any (a : Int) (w : World) : Calls Yba.prog 5 #[.agg #[], .agg #[.int .u32 a]] w fun e w' => e = .returned (.string (if a == 1 then ⟨#[43]⟩ else ⟨#[45]⟩)) ∧ Grown w w' := by
  have he := eq27 a 1
  go_enter Yba.func5, Yba.ntmps5
  go_wp2_with fail
  go_region_with (go_at_call 6; refine (leader1 _).mono ?_; rintro e w' ⟨rfl, rfl⟩)
  all_goals go_wp2
  all_goals (go_ret; exact ⟨rfl, by repeat (first | exact Grown.refl _ | apply Grown.drew | apply Grown.alloc)⟩)
end Go.Proofs.Ybulkcuny
