/-
  errors.As at the concrete target *Error (after the kit's worked text ToyasAs, at this program's numbers): a nil error; the error's own type is the target's.
-/
import Derived.Test.YbulkcupaFmtErr
import Derived.WalkKit
import Derived.LaidEql
import Derived.Stop.Asserts
import Derived.RowKitTokens
namespace Go.Proofs.YbulkcupaFmt
open Go.RowKit Go.Extern.Stop Go.Stop Go.Extern

/-- errors.As(nil, target). -/
theorem as_nil (t : Value) (w : World) :
    Calls Ybaf.prog 12 #[.nilIface, t] w fun e w' => e = .returned (.bool false) ∧ w' = w := by
  go_enter Ybaf.func12, Ybaf.ntmps12
  go_wp2
  go_ret
  exact ⟨rfl, rfl⟩

/-! ### CLOSED FACTS ON THE MODEL's ENTRIES FOR internal/reflectlite, at this program's types: 25: *p.E · 27: **p.E · 23: error · 45: reflectlite's rtype · 1: how many package-level variables the dump has -/
theorem Ybaf.valueOf27 (t : Addr) (w : World) : (ReflectliteValue.unpack (.iface 50 (.pointer (some t)))).run Ybaf.prog w
    = .ok (.agg #[.pointer (some ⟨3, 50, none⟩), .pointer (some ⟨w.heap.size, 0, none⟩), .int .u64 150]) (w.alloc (.cells #[.pointer (some t)] 50)) := by kernel_rfl
theorem Ybaf.type27 (a : Addr) (w : World) : (ReflectliteValue.methodAny (ReflectliteValue.valueError "reflectlite.Value.Type" 0) (fun t _ _ _ => ReflectliteType.toType t) #[.agg #[.pointer (some ⟨3, 50, none⟩), .pointer (some a), .int .u64 150]]).run Ybaf.prog w
    = .ok (.iface 96 (.agg #[.pointer (some ⟨3, 50, none⟩)])) w := by kernel_rfl
theorem Ybaf.methodKind (h : Value) (w : World) : (Go.method 240 96 (.agg #[h]) "Kind").run Ybaf.prog w = .ok (47, h) w := by kernel_rfl
theorem Ybaf.kind27 (w : World) : ((ReflectliteType.abiMethod fun t => (fun a : Nat => Value.int IntKind.u8 (a : Int)) <$> Rtype.kind t) #[.pointer (some ⟨3, 50, none⟩)]).run Ybaf.prog w = .ok (.int .u8 22) w := by kernel_rfl
theorem Ybaf.kind25 (w : World) : ((ReflectliteType.abiMethod fun t => (fun a : Nat => Value.int IntKind.u8 (a : Int)) <$> Rtype.kind t) #[.pointer (some ⟨3, 48, none⟩)]).run Ybaf.prog w = .ok (.int .u8 22) w := by kernel_rfl

/-! ### THE ENTRIES THAT READ OR WRITE MEMORY: laws with a premise on the cell (after Derived/Lib/ReflectliteSlice.lean's manner: each unfolding a lemma of its own, by rfl) -/
theorem rlm (z : Sem Value) (f : TypeId → Addr → Nat → Nat → Sem Value) (v : Value) :
    ReflectliteValue.method z f #[v] = (do match ← ReflectliteValue.parts v with | none => z | some (t, a, fl) => f t a fl (fl % 32)) := rfl
theorem Ybaf.parts27 (a : Addr) (w : World) : (ReflectliteValue.parts (.agg #[.pointer (some ⟨3, 50, none⟩), .pointer (some a), .int .u64 150])).run Ybaf.prog w = .ok (some (50, a, 150)) w := by kernel_rfl
/-- (Value).IsNil at the Value of a **p.E that is not nil. -/
theorem Ybaf.isNil27 (a p : Addr) (W : World) (ha : W.cell? a = some (.pointer (some p))) :
    (ReflectliteValue.method (ReflectliteValue.valueError "reflectlite.Value.IsNil" 0) ReflectliteValue.isNil #[.agg #[.pointer (some ⟨3, 50, none⟩), .pointer (some a), .int .u64 150]]).run Ybaf.prog W = .ok (.bool false) W := by
  rw [rlm]
  simp only [Sem.run_bind, Ybaf.parts27, Result.andThen]
  simp [ReflectliteValue.isNil, loadVar, isAgg, underlying, Ybaf.underlying50, ha, Result.andThen]

theorem Ybaf.methodElem (h : Value) (w : World) : (Go.method 240 96 (.agg #[h]) "Elem").run Ybaf.prog w = .ok (62, .agg #[h]) w := by kernel_rfl
theorem Ybaf.methodImplements (h : Value) (w : World) : (Go.method 240 96 (.agg #[h]) "Implements").run Ybaf.prog w = .ok (63, .agg #[h]) w := by kernel_rfl
theorem Ybaf.methodAssignableTo (h : Value) (w : World) : (Go.method 240 96 (.agg #[h]) "AssignableTo").run Ybaf.prog w = .ok (60, .agg #[h]) w := by kernel_rfl
theorem Ybaf.elem27 (w : World) : (ReflectliteType.method ReflectliteType.elem #[.agg #[.pointer (some ⟨3, 50, none⟩)]]).run Ybaf.prog w = .ok (.iface 96 (.agg #[.pointer (some ⟨3, 48, none⟩)])) w := by kernel_rfl
theorem Ybaf.implements25 (w : World) : (ReflectliteType.relation "Implements" ReflectliteType.implements_ #[.agg #[.pointer (some ⟨3, 48, none⟩)], .iface 96 (.agg #[.pointer (some ⟨3, 42, none⟩)])]).run Ybaf.prog w = .ok (.bool true) w := by kernel_rfl
theorem Ybaf.typeOf25 (v : Value) (w : World) : (ReflectliteType.typeOf #[.iface 48 v]).run Ybaf.prog w = .ok (.iface 96 (.agg #[.pointer (some ⟨3, 48, none⟩)])) w := by kernel_rfl
theorem Ybaf.assignable25 (w : World) : (ReflectliteType.relation "AssignableTo" ReflectliteType.assignableTo #[.agg #[.pointer (some ⟨3, 48, none⟩)], .iface 96 (.agg #[.pointer (some ⟨3, 48, none⟩)])]).run Ybaf.prog w = .ok (.bool true) w := by kernel_rfl
theorem Ybaf.valueOf25 (e : Addr) (w : World) : (ReflectliteValue.unpack (.iface 48 (.pointer (some e)))).run Ybaf.prog w
    = .ok (.agg #[.pointer (some ⟨3, 48, none⟩), .pointer (some ⟨w.heap.size, 0, none⟩), .int .u64 150]) (w.alloc (.cells #[.pointer (some e)] 48)) := by kernel_rfl

theorem Ybaf.elemOf27 (w : World) : (Rtype.elem? 50).run Ybaf.prog w = .ok (some 48) w := by kernel_rfl
theorem Ybaf.mk25 (p : Addr) (w : World) : (ReflectliteValue.mk 48 p ReflectliteValue.flagAddr).run Ybaf.prog w = .ok (.agg #[.pointer (some ⟨3, 48, none⟩), .pointer (some p), .int .u64 406]) w := by kernel_rfl
/-- (Value).Elem at the Value of a **p.E that is not nil: the Value of the *p.E variable that it points to, addressable. -/
theorem Ybaf.elemV27 (a p : Addr) (W : World) (ha : W.cell? a = some (.pointer (some p))) :
    (ReflectliteValue.method (ReflectliteValue.valueError "reflectlite.Value.Elem" 0) ReflectliteValue.elem #[.agg #[.pointer (some ⟨3, 50, none⟩), .pointer (some a), .int .u64 150]]).run Ybaf.prog W
      = .ok (.agg #[.pointer (some ⟨3, 48, none⟩), .pointer (some p), .int .u64 406]) W := by
  rw [rlm]
  simp only [Sem.run_bind, Ybaf.parts27, Result.andThen]
  simp [ReflectliteValue.elem, loadVar, isAgg, underlying, Ybaf.underlying50, ha, Result.andThen, Ybaf.elemOf27, Ybaf.mk25]
theorem rls (v x : Value) : ReflectliteValue.set #[v, x] = (do
    let (some (dst, a, fl), some (src, b, _)) := (← ReflectliteValue.parts v, ← ReflectliteValue.parts x)
      | unsupported (.noEntry "extern/(internal/reflectlite.Value).Set.zeroValue")
    if fl / ReflectliteValue.flagAddr % 2 == 0 then unsupported (.noEntry "extern/(internal/reflectlite.Value).Set.unaddressable")
    let val ← loadVar src b
    if ← Rtype.directlyAssignable dst src then storeVar dst a val
    else if ← Rtype.implements dst src then
      if (← Rtype.kind src) == 20 then
        match val with
        | .nilIface => unsupported (.noEntry "extern/reflectlite: a nil value of one interface type handed on as a value of another")
        | _ => storeVar dst a val
      else storeVar dst a (.iface src val)
    else panicString ("reflectlite.Set: value of type " ++ (← Rtype.spelt src) ++ " is not assignable to type " ++ (← Rtype.spelt dst))
    pure (.tuple #[])) := rfl
theorem Ybaf.parts25a (a : Addr) (w : World) : (ReflectliteValue.parts (.agg #[.pointer (some ⟨3, 48, none⟩), .pointer (some a), .int .u64 406])).run Ybaf.prog w = .ok (some (48, a, 406)) w := by kernel_rfl
theorem Ybaf.parts25 (a : Addr) (w : World) : (ReflectliteValue.parts (.agg #[.pointer (some ⟨3, 48, none⟩), .pointer (some a), .int .u64 150])).run Ybaf.prog w = .ok (some (48, a, 150)) w := by kernel_rfl
theorem Ybaf.direct25 (w : World) : (Rtype.directlyAssignable 48 48).run Ybaf.prog w = .ok true w := by kernel_rfl
theorem Ybaf.size25 (w : World) : (sizeOf 48).run Ybaf.prog w = .ok 1 w := by kernel_rfl
/-- (Value).Set: the *p.E variable at 'ta' gets what the Value's own variable 'b' holds. -/
theorem Ybaf.set25 (ta b e : Addr) (old : Value) (W : World) (hb : W.cell? b = some (.pointer (some e))) (ht : W.cell? ta = some old) (hf : W.frozen? ta = false) :
    (ReflectliteValue.set #[.agg #[.pointer (some ⟨3, 48, none⟩), .pointer (some ta), .int .u64 406], .agg #[.pointer (some ⟨3, 48, none⟩), .pointer (some b), .int .u64 150]]).run Ybaf.prog W
      = .ok (.tuple #[]) (W.setCell ta (.pointer (some e))) := by
  rw [rls]
  simp only [Sem.run_bind, Ybaf.parts25a, Ybaf.parts25, Result.andThen]
  simp [ReflectliteValue.flagAddr, loadVar, isAgg, underlying, Ybaf.underlying48, hb, Result.andThen, Ybaf.direct25, storeVar, Value.cells, storeCells, Addr.add]
  rw [run_store Ybaf.prog W ta _ _ (by rfl)]
  simp [ht, hf]

set_option maxHeartbeats 4000000 in
theorem as_hit (e t : Addr) (old : Value) (w : World) (hg : w.cell? ⟨1, 0, none⟩ = some (.iface 96 (.agg #[.pointer (some ⟨3, 42, none⟩)]))) (ht0 : w.cell? t = some old) (hf0 : w.frozen? t = false) :
    Calls Ybaf.prog 12 #[.iface 48 (.pointer (some e)), .iface 50 (.pointer (some t))] w fun ev w' => ev = .returned (.bool true) ∧ w' = ((((w.alloc (.cells #[.pointer (some t)] 50)).alloc (.cells #[.pointer (some ⟨3, 50, none⟩), .pointer (some ⟨w.heap.size, 0, none⟩), .int .u64 150] 76)).alloc (.cells #[.pointer (some ⟨3, 50, none⟩), .pointer (some ⟨w.heap.size, 0, none⟩), .int .u64 150] 76)).alloc (.cells #[.pointer (some e)] 48)).setCell t (.pointer (some e)) := by
  have h6 := @run_callFunc_extern Ybaf.prog 20 _ (fun args => ReflectliteValue.unpack (args.getD 0 (.tuple #[]))) Ybaf.func20 (by kernel_rfl) (by kernel_rfl) (by kernel_rfl) (by kernel_rfl)
  have h7 := @run_callFunc_extern Ybaf.prog 21 _ (ReflectliteValue.methodAny (ReflectliteValue.valueError "reflectlite.Value.Type" 0) (fun t _ _ _ => ReflectliteType.toType t)) Ybaf.func21 (by kernel_rfl) (by kernel_rfl) (by kernel_rfl) (by kernel_rfl)
  have h8 := @run_callFunc_extern Ybaf.prog 22 _ (ReflectliteValue.method (ReflectliteValue.valueError "reflectlite.Value.IsNil" 0) ReflectliteValue.isNil) Ybaf.func22 (by kernel_rfl) (by kernel_rfl) (by kernel_rfl) (by kernel_rfl)
  have h27 := @run_callFunc_extern Ybaf.prog 47 _ (ReflectliteType.abiMethod fun t => do pure (.int .u8 (← Rtype.kind t))) Ybaf.func47 (by kernel_rfl) (by kernel_rfl) (by kernel_rfl) (by kernel_rfl)
  have h37 := @run_callFunc_extern Ybaf.prog 62 _ (ReflectliteType.method ReflectliteType.elem) Ybaf.func62 (by kernel_rfl) (by kernel_rfl) (by kernel_rfl) (by kernel_rfl)
  have h38 := @run_callFunc_extern Ybaf.prog 63 _ (ReflectliteType.relation "Implements" ReflectliteType.implements_) Ybaf.func63 (by kernel_rfl) (by kernel_rfl) (by kernel_rfl) (by kernel_rfl)
  have h10 := @run_callFunc_extern Ybaf.prog 28 _ ReflectliteType.typeOf Ybaf.func28 (by kernel_rfl) (by kernel_rfl) (by kernel_rfl) (by kernel_rfl)
  have h35 := @run_callFunc_extern Ybaf.prog 60 _ (ReflectliteType.relation "AssignableTo" ReflectliteType.assignableTo) Ybaf.func60 (by kernel_rfl) (by kernel_rfl) (by kernel_rfl) (by kernel_rfl)
  have h11 := @run_callFunc_extern Ybaf.prog 29 _ (ReflectliteValue.method (ReflectliteValue.valueError "reflectlite.Value.Elem" 0) ReflectliteValue.elem) Ybaf.func29 (by kernel_rfl) (by kernel_rfl) (by kernel_rfl) (by kernel_rfl)
  have h12 := @run_callFunc_extern Ybaf.prog 30 _ ReflectliteValue.set Ybaf.func30 (by kernel_rfl) (by kernel_rfl) (by kernel_rfl) (by kernel_rfl)
  have tO := Ybaf.typeOf25
  have mA := Ybaf.methodAssignableTo
  have a25 := Ybaf.assignable25
  have v25 := Ybaf.valueOf25
  have f6 := Ybaf.valueOf27
  have f7 := Ybaf.type27
  have mK := Ybaf.methodKind
  have mE := Ybaf.methodElem
  have mI := Ybaf.methodImplements
  have k27 := Ybaf.kind27
  have k25 := Ybaf.kind25
  have e27 := Ybaf.elem27
  have i25 := Ybaf.implements25
  have n8 := Ybaf.isNil27 ⟨w.heap.size, 0, none⟩ t ((w.alloc (.cells #[.pointer (some t)] 50)).alloc (.cells #[.pointer (some ⟨3, 50, none⟩), .pointer (some ⟨w.heap.size, 0, none⟩), .int .u64 150] 76)) (by simp)
  have hlt : 1 < w.heap.size := World.block_lt_of_cell? _ _ hg
  have hg2 : ((w.alloc (.cells #[.pointer (some t)] 50)).alloc (.cells #[.pointer (some ⟨3, 50, none⟩), .pointer (some ⟨w.heap.size, 0, none⟩), .int .u64 150] 76)).cell? ⟨1, 0, none⟩ = some (.iface 96 (.agg #[.pointer (some ⟨3, 42, none⟩)])) := by
    rw [World.cell?_alloc_lt _ _ ⟨1, 0, none⟩ (by simp; omega), World.cell?_alloc_lt _ _ ⟨1, 0, none⟩ hlt]; exact hg
  have htl : t.block < w.heap.size := by
    rcases Nat.lt_or_ge t.block w.heap.size with h | h
    · exact h
    · simp [World.cell?, Array.getElem?_eq_none h] at ht0
  have el := Ybaf.elemV27 ⟨w.heap.size, 0, none⟩ t (((w.alloc (.cells #[.pointer (some t)] 50)).alloc (.cells #[.pointer (some ⟨3, 50, none⟩), .pointer (some ⟨w.heap.size, 0, none⟩), .int .u64 150] 76)).alloc (.cells #[.pointer (some ⟨3, 50, none⟩), .pointer (some ⟨w.heap.size, 0, none⟩), .int .u64 150] 76)) (by rw [World.cell?_alloc_lt _ _ ⟨w.heap.size, 0, none⟩ (by simp; omega)]; simp)
  have st := Ybaf.set25 t ⟨w.heap.size + 1 + 1 + 1, 0, none⟩ e old ((((w.alloc (.cells #[.pointer (some t)] 50)).alloc (.cells #[.pointer (some ⟨3, 50, none⟩), .pointer (some ⟨w.heap.size, 0, none⟩), .int .u64 150] 76)).alloc (.cells #[.pointer (some ⟨3, 50, none⟩), .pointer (some ⟨w.heap.size, 0, none⟩), .int .u64 150] 76)).alloc (.cells #[.pointer (some e)] 48))
    (by rw [World.cell?_alloc_at _ _ _ _ (by simp)]; rfl)
    (by rw [World.cell?_alloc_lt _ _ t (by simp; omega), World.cell?_alloc_lt _ _ t (by simp; omega), World.cell?_alloc_lt _ _ t (by simp; omega), World.cell?_alloc_lt _ _ t htl]; exact ht0)
    (by rw [World.frozen?_alloc_old _ _ t (by simp; omega), World.frozen?_alloc_old _ _ t (by simp; omega), World.frozen?_alloc_old _ _ t (by simp; omega), World.frozen?_alloc_old _ _ t (Nat.ne_of_lt htl)]; exact hf0)
  go_enter Ybaf.func12, Ybaf.ntmps12
  go_wp2
  refine wp_loop_rounds 1 ?_
  rw [rounds_succ]
  go_wp2
  go_ret
  exact ⟨rfl, rfl⟩
end Go.Proofs.YbulkcupaFmt
