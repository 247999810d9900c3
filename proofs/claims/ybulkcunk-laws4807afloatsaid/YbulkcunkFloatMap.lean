/-
  A map[float64]int in the model's memory: its entries as a list of (bits, count); look-up, store and length as functions on that list. (The kit has no law for float keys: these are proved off the model's own definitions.)
-/
import Derived.Test.YbulkcunkRows
import Derived.Test.YbulkcunkFloatEq
import Derived.Maps.OwnSet
import Derived.WalkKit
import Derived.WalkSpells
import Derived.WalkLawsBesides
import Derived.Below
namespace Go.Proofs.Ybulkcunk
open Go.RowKit Go.Maps Go.ChangeMaps

/-- An entry of a map[float64]int: the key's bits, the count. -/
abbrev ent (e : MapEntry) : Value × Value := (e.key, e.val)
abbrev pairs (l : List (Nat × Int)) : List (Value × Value) := l.map fun p => (.float .f64 p.1, .int .i64 p.2)

/-- Block b of w is a map whose entries are l. -/
def ownsF (w : World) (b : Nat) (l : List (Nat × Int)) : Prop :=
  ∃ es clock, w.heap[b]? = some (.map es clock) ∧ es.toList.map ent = pairs l

/-- The first entry at key a: its place and its count. -/
def findF (a : Nat) : List (Nat × Int) → Nat → Option (Nat × Int)
  | [], _ => none
  | p :: l, i => if feq a p.1 then some (i, p.2) else findF a l (i + 1)

theorem equal45 (a b : Nat) (w : World) : (Op.equal 45 (.float .f64 a) (.float .f64 b)).run Yba.prog w = .ok (feq a b) w := by
  have h : ∀ d, (Op.equalIn (d + 1) 45 (.float .f64 a) (.float .f64 b)).run Yba.prog w = .ok (feq a b) w := fun d => by
    simp [Op.equalIn, run_underlying Yba.underlying45, Op.floatEq, feq]
  exact h 9999

theorem run_asking (a : Nat) (w : World) : ∀ (es : List MapEntry) (l : List (Nat × Int)) (i : Nat), es.map ent = pairs l →
    (Instr.findAsking 45 (.float .f64 a) es i).run Yba.prog w = .ok ((findF a l i).map fun q => (q.1, Value.int .i64 q.2)) w
  | [], [], i, _ => by simp [Instr.findAsking, findF]
  | [], p :: l, i, h => by simp [pairs] at h
  | e :: es, [], i, h => by simp [pairs] at h
  | e :: es, p :: l, i, h => by
    simp only [pairs, List.map_cons, List.cons.injEq, Prod.mk.injEq] at h
    obtain ⟨⟨h1, h2⟩, h3⟩ := h
    simp only [Instr.findAsking, h1, h2, Sem.run_bind, equal45, Result.andThen_ok, findF]
    cases hq : feq a p.1
    · simpa using run_asking a w es l (i + 1) h3
    · simp

theorem run_findF (a : Nat) (w : World) (es : List MapEntry) (l : List (Nat × Int)) (h : es.map ent = pairs l) :
    (Instr.findKey 45 (.float .f64 a) es).run Yba.prog w = .ok ((findF a l 0).map fun q => (q.1, Value.int .i64 q.2)) w := by
  cases es with
  | nil =>
    cases l with
    | nil => simp [Instr.findKey, run_underlying Yba.underlying45, Instr.findNow, findF]
    | cons => simp [pairs] at h
  | cons e es =>
    have := run_asking a w (e :: es) l 0 h
    simp only [Instr.findKey, Sem.run_bind, run_underlying Yba.underlying45, Result.andThen_ok, Instr.findNow, Instr.sameNow]
    exact this

theorem run_check45 (em : Bool) (a : Nat) (w : World) : (Instr.checkKey em 10000 45 (.float .f64 a)).run Yba.prog w = .ok () w := by
  have h : ∀ d, (Instr.checkKey em (d + 1) 45 (.float .f64 a)).run Yba.prog w = .ok () w := fun d => by
    simp [Instr.checkKey, run_underlying Yba.underlying45]
  exact h 9999

/-- 'm[k]'. -/
theorem ownsF.lookup {w : World} {b : Nat} {l : List (Nat × Int)} (h : ownsF w b l) (a : Nat) :
    (Instr.lookup 42 (.map (some b)) (.float .f64 a) false).run Yba.prog w = .ok (.int .i64 (((findF a l 0).map Prod.snd).getD 0)) w := by
  obtain ⟨es, clock, hb, he⟩ := h
  simp only [Instr.lookup, Sem.run_bind, run_underlying Yba.underlying42, Result.andThen_ok, MapKept.run_getObj_map hb, Sem.run_pure, run_check45, run_findF a w es.toList l he]
  cases findF a l 0 <;> simp

theorem findF_get (a : Nat) : ∀ (l : List (Nat × Int)) (i j : Nat) (v : Int), findF a l i = some (j, v) → ∃ p, i ≤ j ∧ l[j - i]? = some p ∧ p.2 = v ∧ feq a p.1 = true
  | [], i, j, v, h => by simp [findF] at h
  | p :: l, i, j, v, h => by
    unfold findF at h
    split at h
    · rename_i hq
      simp only [Option.some.injEq, Prod.mk.injEq] at h
      obtain ⟨rfl, rfl⟩ := h
      exact ⟨p, Nat.le_refl _, by simp, rfl, hq⟩
    · obtain ⟨q, h1, h2, h3, h4⟩ := findF_get a l (i + 1) j v h
      refine ⟨q, by omega, ?_, h3, h4⟩
      rw [show j - i = (j - (i + 1)) + 1 by omega]
      simpa using h2

theorem findF_none (a : Nat) : ∀ (l : List (Nat × Int)) (i : Nat), findF a l i = none → ∀ p ∈ l, feq a p.1 = false
  | [], i, _, p, hp => by cases hp
  | q :: l, i, h, p, hp => by
    unfold findF at h
    split at h
    · cases h
    · rename_i hq
      rcases List.mem_cons.1 hp with rfl | hp
      · simpa using hq
      · exact findF_none a l (i + 1) h p hp

/-- Which of two equal keys stays is Go's to choose: one of the two; a draw, or none. -/
theorem run_stays (old new : Value) (w : World) : ∃ r w', (Instr.keyThatStays old new).run Yba.prog w = .ok r w' ∧ (r = new ∨ r = old) ∧ (w' = w ∨ w' = w.drew) := by
  unfold Instr.keyThatStays
  split
  · exact ⟨new, w, by simp, .inl rfl, .inl rfl⟩
  · simp only [Sem.run_bind, run_choose_drew]
    split
    · exact ⟨new, w, by simp, .inl rfl, .inl rfl⟩
    · simp only [Result.andThen_ok, Sem.run_pure]
      split
      · exact ⟨_, _, rfl, .inl rfl, .inr rfl⟩
      · exact ⟨_, _, rfl, .inr rfl, .inr rfl⟩

/-- w' is w but for the map in block b (and a draw). -/
structure turnedF (w w' : World) (b : Nat) : Prop where
  os : w'.os = w.os
  tape : w'.tape = w.tape
  output : w'.output = w.output
  size : w'.heap.size = w.heap.size
  block : ∀ i, i ≠ b → w'.heap[i]? = w.heap[i]?
  frozen : ∀ a, w'.frozen? a = w.frozen? a

theorem turnedF.cell {w w1 : World} {bm sb o : Nat} (h : turnedF w w1 bm) (hne : bm ≠ sb) : w1.cell? ⟨sb, o, none⟩ = w.cell? ⟨sb, o, none⟩ :=
  World.cell?_of_block (h.block sb hne.symm)

theorem turnedF.below {w w1 : World} {bm B : Nat} (h : turnedF w w1 bm) (hB : B ≤ bm) : Below B w w1 :=
  ⟨h.os, h.tape, h.output, Nat.le_of_eq h.size.symm, fun k hk => h.block k (by omega)⟩

theorem turned_set {w w0 : World} {b : Nat} {es : Array MapEntry} {clock : Nat} (hw : w0 = w ∨ w0 = w.drew) (hb : w.heap[b]? = some (.map es clock)) (es' : Array MapEntry) (clock' : Nat) :
    turnedF w (setBlock w0 b (.map es' clock')) b := by
  have hb0 : w0.heap[b]? = some (.map es clock) := by rcases hw with rfl | rfl <;> exact hb
  have hf : ∀ a, w0.frozen? a = w.frozen? a := by rcases hw with rfl | rfl <;> exact fun _ => rfl
  refine ⟨by rcases hw with rfl | rfl <;> rfl, by rcases hw with rfl | rfl <;> rfl, by rcases hw with rfl | rfl <;> rfl, by rcases hw with rfl | rfl <;> exact Array.size_setIfInBounds, fun i hi => ?_, fun a => (frozen?_setBlock hb0 a).trans (hf a)⟩
  rw [heap_setBlock_other hb0 _ hi]
  rcases hw with rfl | rfl <;> rfl

/-- 'm[k] = v': at a key that is there the count is turned (and the key is one of the two); else an entry is added. -/
theorem ownsF.update {w : World} {b : Nat} {l : List (Nat × Int)} (h : ownsF w b l) (a : Nat) (v : Int) :
    ∃ w', (Instr.mapUpdate 42 (.map (some b)) (.float .f64 a) (.int .i64 v)).run Yba.prog w = .ok () w' ∧ turnedF w w' b ∧
      ((findF a l 0 = none ∧ ownsF w' b (l ++ [(a, v)])) ∨ ∃ j p x, l[j]? = some p ∧ feq a p.1 = true ∧ (x = a ∨ x = p.1) ∧ findF a l 0 = some (j, p.2) ∧ ownsF w' b (l.set j (x, v))) := by
  obtain ⟨es, clock, hb, he⟩ := h
  cases hq : findF a l 0 with
  | none =>
    refine ⟨setBlock w b (.map (es.push ⟨.float .f64 a, .int .i64 v, clock⟩) (clock + 1)), ?_, turned_set (.inl rfl) hb _ _, .inl ⟨rfl, _, _, heap_setBlock_same hb _, by simp [he]⟩⟩
    simp [Instr.mapUpdate, run_underlying Yba.underlying42, MapKept.run_getObj_map hb, run_check45, run_findF a w es.toList l he, hq, MapKept.run_setObj_map _ hb, Result.andThen, setBlock]
  | some q =>
    obtain ⟨j, c⟩ := q
    obtain ⟨p, _, hp, rfl, hpa⟩ := findF_get a l 0 j c hq
    simp only [Nat.sub_zero] at hp
    have hej : ∃ e0, es[j]? = some e0 ∧ e0.key = .float .f64 p.1 := by
      have h1 : (es.toList.map ent)[j]? = some (.float .f64 p.1, .int .i64 p.2) := by rw [he]; simp [hp]
      simp only [List.getElem?_map, Option.map_eq_some_iff] at h1
      obtain ⟨e0, h2, h3⟩ := h1
      simp only [Prod.mk.injEq] at h3
      exact ⟨e0, by simpa using h2, h3.1⟩
    obtain ⟨e0, hj, hkey⟩ := hej
    obtain ⟨r, w0, hst, hr, hw0⟩ := run_stays (.float .f64 p.1) (.float .f64 a) w
    have hr' : ∃ x, r = .float .f64 x ∧ (x = a ∨ x = p.1) := by
      rcases hr with rfl | rfl
      · exact ⟨a, rfl, .inl rfl⟩
      · exact ⟨p.1, rfl, .inr rfl⟩
    obtain ⟨x, rfl, hx⟩ := hr'
    have hb0 : w0.heap[b]? = some (.map es clock) := by rcases hw0 with rfl | rfl <;> exact hb
    refine ⟨setBlock w0 b (.map (es.modify j fun e => { e with key := .float .f64 x, val := .int .i64 v }) clock), ?_, turned_set hw0 hb _ _, .inr ⟨j, p, x, hp, hpa, hx, rfl, _, _, heap_setBlock_same hb0 _, ?_⟩⟩
    · simp [Instr.mapUpdate, run_underlying Yba.underlying42, MapKept.run_getObj_map hb, run_check45, run_findF a w es.toList l he, hq, hj, hkey, hst, MapKept.run_setObj_map _ hb0, Result.andThen, setBlock]
    · apply List.ext_getElem?
      intro i
      have hi : (es.toList.map ent)[i]? = (pairs l)[i]? := by rw [he]
      have hlen : es.size = l.length := by have := congrArg List.length he; simpa using this
      by_cases e : i = j
      · subst e
        have hlt : i < es.size := by
          rcases Nat.lt_or_ge i es.size with h | h
          · exact h
          · simp [h] at hj
        simp [hlt, ← hlen]
      · simp [Ne.symm e] at hi ⊢
        exact hi

/-- 'len(m)'. -/
theorem ownsF.len {w : World} {b : Nat} {l : List (Nat × Int)} (h : ownsF w b l) (ty : TypeId) : (Builtin.len_ #[42] ty #[.map (some b)]).run Yba.prog w = .ok (.int .i64 l.length) w := by
  obtain ⟨es, clock, hb, he⟩ := h
  have hlen : es.size = l.length := by have := congrArg List.length he; simpa using this
  simp [Builtin.len_, run_underlying Yba.underlying42, MapKept.run_getObj_map hb, goInt, Result.andThen, hlen]

theorem ownsF.made (w : World) : ownsF (w.alloc (.map #[] 0)) w.heap.size [] := ⟨#[], 0, (MapKept.heap_alloc w _).1, by simp⟩

theorem ownsF.setCell {w : World} {b : Nat} {l : List (Nat × Int)} (h : ownsF w b l) {a : Addr} (ha : b ≠ a.block) (u : Value) : ownsF (w.setCell a u) b l := by
  obtain ⟨es, clock, hb, r⟩ := h
  exact ⟨es, clock, by rw [RowKit.Below.heap_setCell _ _ _ _ ha]; exact hb, r⟩

/-- 'm[k] = v' at the operation, for the walk. -/
theorem wpList_update_F (w : World) {ops : Array Oper} {rest : List Oper} {o : Oper} {a : Act} {Q : Exit → Act → World → Prop}
    (hg : o.guard = none) (m x v : Operand) (hop : o.op = Op.mapUpdate 42 m x v) (b : Nat) (l : List (Nat × Int)) (hm : a.eval m = .map (some b)) (hown : ownsF w b l) (k : Nat) (c : Int) (hx : a.eval x = .float .f64 k) (hv : a.eval v = .int .i64 c)
    (hK : ∀ w', turnedF w w' b → ((findF k l 0 = none ∧ ownsF w' b (l ++ [(k, c)])) ∨ ∃ j p x, l[j]? = some p ∧ feq k p.1 = true ∧ (x = k ∨ x = p.1) ∧ findF k l 0 = some (j, p.2) ∧ ownsF w' b (l.set j (x, c))) → wpList Yba.prog ops Q rest (a.put o.dst undef) w') :
    wpList Yba.prog ops Q (o :: rest) a w := by
  refine wpList_plain hg fun K' hK' => ?_
  obtain ⟨w', hrun, r1, r2⟩ := hown.update k c
  unfold Oper.wp
  simp [execOp, hop, hm, hx, hv, hrun, Result.andThen]
  exact hK' _ _ (hK w' r1 r2)
end Go.Proofs.Ybulkcunk
