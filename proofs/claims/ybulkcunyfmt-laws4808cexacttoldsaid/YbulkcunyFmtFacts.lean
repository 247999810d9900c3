/-
  The closed facts that the walk over fmt.Errorf's stop and errors.Is wants, at this program's numbers (after the kit's worked texts SentryFmt and SentryIs).
-/
import Derived.Test.YbulkcunyFmtProg
import Derived.Stop.CallBack
import Derived.Stop.IfaceNil
import Derived.WalkKit
import Derived.LaidEql
import Derived.Stop.Asserts
import Derived.RowKitTokens
import GoSem.ClaimData
namespace Go.Proofs
open Go.RowKit Go.Extern.Stop Go.Stop Go.Extern

@[go_sem] theorem Ybaf.call9 (args : Array Value) (w : World) : (callFunc 9 args).run Ybaf.prog w = ((FmtStop.errorf #[9, 33] #[23] args).run Ybaf.prog w).andThen fun v w' => .ok (.value v) w' :=
  run_callFunc_extern Ybaf.func9 (by kernel_rfl) (by kernel_rfl) (by kernel_rfl) (by kernel_rfl) args w
@[go_sem] theorem Ybaf.guard (name : String) (w : World) : (FmtStop.guard name).run Ybaf.prog w = .ok () w := by kernel_rfl
@[go_sem] theorem Ybaf.fmt0 : FmtStop.printed? ⟨#[37, 119, 58, 32, 107, 32, 61, 32, 37, 100, 44, 32, 119, 97, 110, 116, 32, 97, 116, 32, 108, 101, 97, 115, 116, 32, 49]⟩ 2 = some [(0, 119, false), (1, 100, false)] := by kernel_rfl
@[go_sem] theorem Ybaf.fmt0r (w : World) : (FmtDoors.printed ⟨#[37, 119, 58, 32, 107, 32, 61, 32, 37, 100, 44, 32, 119, 97, 110, 116, 32, 97, 116, 32, 108, 101, 97, 115, 116, 32, 49]⟩ 2).run Ybaf.prog w = .ok [(0, 119, false), (1, 100, false)] w := by kernel_rfl
def Ybaf.shape3 : List UInt8 := [5, 3, 0, 0, 0, 0, 0, 0, 0, 105, 110, 116]
@[go_sem] theorem Ybaf.op3_100w (name : String) (x : Int) (w : World) : (FmtStop.operand name true 100 false (.iface 3 (.int .i64 x))).run Ybaf.prog w = .ok (Ybaf.shape3, Go.Extern.Stop.digits 8 (x % 2 ^ 64).toNat) w := by kernel_rfl
@[go_sem] theorem Ybaf.isError47 (w : World) : (FmtDoors.textMethod 47 "Error").run Ybaf.prog w = .ok true w := by kernel_rfl
/-- An error of errors.New's make as the operand of %w: its type's name and its text, out of memory. -/
theorem Ybaf.opPlain47_119w : ∃ sh : List UInt8, ∀ (name : String) (a : Addr) (s : ByteArray) (w : World), w.cell? a = some (.string s) →
    (FmtStop.operand name true 119 false (.iface 47 (.pointer (some a)))).run Ybaf.prog w = .ok (sh, s.data.toList) w := by
  refine ⟨14 :: FmtStop.pack ((Ybaf.prog.typeName? 3 47).getD "").toUTF8.data.toList, fun name a s w hc => ?_⟩
  have h1 : (typeStr 47).run Ybaf.prog w = .ok ((Ybaf.prog.typeName? 3 47).getD "") w := by kernel_rfl
  have d2 : Ybaf.t47.desc = .pointer 49 := rfl
  have d3 : Ybaf.t49.desc = .named "errors.errorString" 48 := rfl
  simp [FmtStop.operand, h1, d2, d3, run_load, hc]
@[go_sem] theorem Ybaf.ptr35 (w : World) : (FmtStop.ptrTo "fmt.wrapError").run Ybaf.prog w = .ok 35 w := by kernel_rfl
@[go_sem] theorem Ybaf.elem35 (w : World) : (elemOf 35).run Ybaf.prog w = .ok 74 w := by kernel_rfl
@[go_sem] theorem Ybaf.isError35 (w : World) : (FmtDoors.textMethod 35 "Error").run Ybaf.prog w = .ok true w := by kernel_rfl

theorem Ybaf.isTypeOf (v : Value) (w : World) : (Extern.ReflectliteType.typeOf #[.iface 47 v]).run Ybaf.prog w = .ok (.iface 37 (.agg #[.pointer (some ⟨1, 47, none⟩)])) w := by kernel_rfl
theorem Ybaf.isComparable (w : World) : ((Extern.ReflectliteType.method fun t => (fun a => Value.bool a.comparable) <$> typeInfo t) #[.agg #[.pointer (some ⟨1, 47, none⟩)]]).run Ybaf.prog w = .ok (.bool true) w := by kernel_rfl
theorem Ybaf.isComp : (Ybaf.prog.info? 47).map (·.comparable) = some true := by kernel_rfl
theorem Ybaf.isSize : (Ybaf.prog.info? 49).map (·.size) = some 1 := by kernel_rfl
theorem Ybaf.noIsE (v : Value) (xT : TypeId) (w : World) : (Instr.typeAssert (.iface 47 v) xT 39 true).run Ybaf.prog w = .ok (.tuple #[.nilIface, .bool false]) w := run_typeAssert_lacksB Ybaf.underlying39 (by kernel_rfl) (by kernel_rfl) v xT w
theorem Ybaf.noIsW (v : Value) (xT : TypeId) (w : World) : (Instr.typeAssert (.iface 35 v) xT 39 true).run Ybaf.prog w = .ok (.tuple #[.nilIface, .bool false]) w := run_typeAssert_lacksB Ybaf.underlying39 (by kernel_rfl) (by kernel_rfl) v xT w
theorem Ybaf.hasUnwrapW (v : Value) (xT : TypeId) (w : World) : (Instr.typeAssert (.iface 35 v) xT 42 true).run Ybaf.prog w = .ok (.tuple #[.iface 35 v, .bool true]) w := run_typeAssert_hasB Ybaf.underlying42 (by kernel_rfl) v xT w
end Go.Proofs
