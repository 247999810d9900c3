/-
  LawS4808CExact: checkWindow by its two ways, errors.Is through the wrap, and the law's walk.
-/
import Derived.Test.YbulkcunyFmtRows
import Derived.Test.YbulkcunyFmtFacts
import Derived.WalkSpells
import Derived.Below
import Derived.Deep.RegionWith
namespace Go.Proofs.YbulkcunyFmt
open Go.RowKit Go.Extern.Stop Go.Stop Go.Extern

theorem Ybaf.call31 (w : World) : (callFunc 31 #[.agg #[.pointer (some ⟨1, 47, none⟩)]]).run Ybaf.prog w = .ok (.value (.bool true)) w := by kernel_rfl
theorem Ybaf.methodComparable (v : Value) (w : World) : (Go.method 189 37 v "Comparable").run Ybaf.prog w = .ok (31, v) w := by kernel_rfl
theorem Ybaf.methodUnwrap (v : Value) (w : World) : (Go.method 189 35 v "Unwrap").run Ybaf.prog w = .ok (27, v) w := by kernel_rfl

theorem check_ok (k : Int) (w : World) (h : ¬ k < 1) : Calls Ybaf.prog 4 #[.int .i64 k] w fun e w' => e = .returned .nilIface ∧ w = w' := by
  go_enter Ybaf.func4, Ybaf.ntmps4
  go_wp2
  go_ret
  exact ⟨rfl, rfl⟩

theorem check_bad (F : Interp) (k : Int) (a : Addr) (s : ByteArray) (w : World) (hF : F.answers w.tape) (hg : w.cell? ⟨0, 0, none⟩ = some (.iface 47 (.pointer (some a))))
    (hs : w.cell? a = some (.string s)) (ha : a.block < w.heap.size) (h : k < 1) :
    Calls Ybaf.prog 4 #[.int .i64 k] w fun e w' => e = .returned (.iface 35 (.pointer (some ⟨w.heap.size + 1, 0, none⟩))) ∧ Below w.heap.size w w' ∧ w'.cell? ⟨w.heap.size + 1, 1, none⟩ = some (.iface 47 (.pointer (some a))) := by
  have hF' := answers_open hF
  obtain ⟨sh, hop⟩ := Ybaf.opPlain47_119w
  have hop' := hop "fmt.errorf" a s (w.alloc (.cells #[.iface 47 (.pointer (some a)), .iface 3 (.int .i64 k)] 20)) ((((Below.refl _ w).alloc (Nat.le_refl _) _).cell ha).trans hs)
  clear hop
  go_enter Ybaf.func4, Ybaf.ntmps4
  go_wp2
  go_ret
  exact ⟨rfl, (((Below.refl _ w).alloc (Nat.le_refl _) _).alloc (by simp) _).drew, by go_simp⟩

/-- errors.Is(e, x), e a *fmt.wrapError that wraps x itself: one Unwrap, then equal. -/
theorem is_wrap_same (pb : Nat) (b : Addr) (w : World) (h1 : w.cell? ⟨pb, 1, none⟩ = some (.iface 47 (.pointer (some b)))) :
    Calls Ybaf.prog 5 #[.iface 35 (.pointer (some ⟨pb, 0, none⟩)), .iface 47 (.pointer (some b))] w fun e w' => e = .returned (.bool true) ∧ w = w' := by
  obtain ⟨i, hi, hcmp⟩ := Option.map_eq_some_iff.1 Ybaf.isComp
  obtain ⟨j, hj, hjs⟩ := Option.map_eq_some_iff.1 Ybaf.isSize
  have h7 := @run_callFunc_extern Ybaf.prog 7 _ Extern.ReflectliteType.typeOf Ybaf.func7 (by kernel_rfl) (by kernel_rfl) (by kernel_rfl) (by kernel_rfl)
  have h31 := Ybaf.call31
  have mR := Ybaf.methodComparable
  have mU := Ybaf.methodUnwrap
  have tT := Ybaf.isTypeOf
  have nE := Ybaf.noIsE
  have nW := Ybaf.noIsW
  have uW := Ybaf.hasUnwrapW
  have heq := run_eql_iface_ptr_same (P := Ybaf.prog) w b Ybaf.underlying23 Ybaf.underlying47 hi hcmp hj
  have hty := run_eql_iface_types (P := Ybaf.prog) 35 47 (.pointer (some ⟨pb, 0, none⟩)) (.pointer (some b)) Ybaf.underlying23 (by decide) w
  go_enter Ybaf.func5, Ybaf.ntmps5
  go_wp2
  refine wp_loop_rounds 2 ?_
  rw [rounds_succ]
  go_wp2
  rw [rounds_succ]
  go_wp2
  go_ret
  exact ⟨rfl, rfl⟩

theorem law_ok (k : Int) (w : World) (h : ¬ k < 1) : Calls Ybaf.prog 3 #[.int .i64 k] w fun e w' => e = .returned (.bool true) ∧ Below w.heap.size w w' := by
  go_enter Ybaf.func3, Ybaf.ntmps3
  go_wp2_with (go_at_call 4; refine (check_ok k _ (by omega)).mono ?_; rintro e w' ⟨rfl, rfl⟩)
  go_ret
  exact ⟨rfl, Below.refl _ _⟩

theorem law_bad (F : Interp) (k : Int) (a : Addr) (s : ByteArray) (w : World) (hF : F.answers w.tape) (hg : w.cell? ⟨0, 0, none⟩ = some (.iface 47 (.pointer (some a))))
    (hs : w.cell? a = some (.string s)) (ha : a.block < w.heap.size) (h0 : 0 < w.heap.size) (h : k < 1) :
    Calls Ybaf.prog 3 #[.int .i64 k] w fun e w' => e = .returned (.bool true) ∧ Below w.heap.size w w' := by
  go_enter Ybaf.func3, Ybaf.ntmps3
  go_wp2_with fail
  refine (check_bad F k a s w hF hg hs ha (by omega)).mono ?_
  rintro e w1 ⟨rfl, hb, hc⟩
  have hg1 : w1.cell? ⟨0, 0, none⟩ = some (.iface 47 (.pointer (some a))) := (hb.cell (p := ⟨0, 0, none⟩) h0).trans hg
  go_wp2_with (go_at_call 5; refine (is_wrap_same _ a _ hc).mono ?_; rintro e w' ⟨rfl, rfl⟩)
  go_ret
  exact ⟨rfl, hb⟩
end Go.Proofs.YbulkcunyFmt
