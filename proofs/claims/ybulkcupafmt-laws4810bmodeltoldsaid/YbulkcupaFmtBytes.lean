/-
  A small kit of our own for walks over rows of bytes: what is kept while some blocks are written ('Kept'), and what a run of stores leaves. Over any program: no walk here.
-/
import Derived.Below
import Derived.WalkSmall
import Derived.Laws.IdiomCopy
import Derived.Lib.ConvBytes
namespace Go.Proofs.YbulkcupaFmt
open Go.RowKit

/-- w' is w with new blocks laid, and with the blocks of S (and no other) written. -/
structure Kept (S : Nat → Prop) (w w' : World) : Prop where
  os : w'.os = w.os
  tape : w'.tape = w.tape
  output : w'.output = w.output
  size : w.heap.size ≤ w'.heap.size
  block : ∀ k, k < w.heap.size → ¬ S k → w'.heap[k]? = w.heap[k]?

variable {S : Nat → Prop} {w w' w'' : World}

theorem Kept.refl (S : Nat → Prop) (w : World) : Kept S w w := ⟨rfl, rfl, rfl, Nat.le_refl _, fun _ _ _ => rfl⟩
theorem Kept.trans (h : Kept S w w') (k : Kept S w' w'') : Kept S w w'' :=
  ⟨k.os.trans h.os, k.tape.trans h.tape, k.output.trans h.output, Nat.le_trans h.size k.size, fun i hi hs => (k.block i (Nat.lt_of_lt_of_le hi h.size) hs).trans (h.block i hi hs)⟩
theorem Kept.mono (h : Kept S w w') {T : Nat → Prop} (hT : ∀ k, k < w.heap.size → S k → T k) : Kept T w w' := ⟨h.os, h.tape, h.output, h.size, fun k hk hn => h.block k hk fun hs => hn (hT k hk hs)⟩
theorem Kept.drew (h : Kept S w w') : Kept S w w'.drew := ⟨h.os, h.tape, h.output, h.size, h.block⟩
theorem Kept.alloc (h : Kept S w w') (o : Obj) : Kept S w (w'.alloc o) :=
  ⟨h.os, h.tape, h.output, Nat.le_trans h.size (by simp), fun k hk hn => (Below.heap_alloc w' o k (Nat.lt_of_lt_of_le hk h.size)).trans (h.block k hk hn)⟩
theorem Kept.setCell (h : Kept S w w') {a : Addr} (ha : S a.block ∨ w.heap.size ≤ a.block) (v : Value) : Kept S w (w'.setCell a v) :=
  ⟨h.os, h.tape, h.output, by simpa [World.setCell] using h.size, fun k hk hn => by
    rw [Below.heap_setCell w' a v k (by rintro rfl; rcases ha with h1 | h1; exact hn h1; omega)]
    exact h.block k hk hn⟩
theorem Kept.setCells (b : Nat) : ∀ (vs : List Value) (o : Nat) {w' : World}, Kept S w w' → (S b ∨ w.heap.size ≤ b) → Kept S w (w'.setCells b o vs)
  | [], _, _, h, _ => h
  | v :: vs, o, _, h, hb => Kept.setCells b vs (o + 1) (h.setCell (a := ⟨b, o, none⟩) hb v) hb
theorem Kept.ofBelow (h : Below w.heap.size w w') (S : Nat → Prop) : Kept S w w' := ⟨h.os, h.tape, h.output, h.size, fun k hk _ => h.block k hk⟩
theorem Kept.below (h : Kept S w w') {B : Nat} (hS : ∀ k, S k → B ≤ k) (hB : B ≤ w.heap.size) : Below B w w' :=
  ⟨h.os, h.tape, h.output, h.size, fun k hk => h.block k (by omega) fun hs => by have := hS k hs; omega⟩
theorem Kept.cell (h : Kept S w w') {p : Addr} (hp : p.block < w.heap.size) (hs : ¬ S p.block) : w'.cell? p = w.cell? p := World.cell?_of_block (h.block p.block hp hs)
theorem Kept.frozen (h : Kept S w w') {p : Addr} (hp : p.block < w.heap.size) (hs : ¬ S p.block) : w'.frozen? p = w.frozen? p := World.frozen?_of_block (h.block p.block hp hs)
theorem Kept.bytes (w : World) (e : TypeId) (s : ByteArray) (S : Nat → Prop) : Kept S w (Lib.bytesWorld w e s) :=
  ⟨rfl, rfl, rfl, by rw [Lib.bytesWorld_size]; omega, fun k hk _ => Lib.bytesWorld_at_old w e s k hk⟩

/-- m bytes from ⟨g, o⟩ on: R j at j; they may be written. -/
structure Row (w : World) (g o m : Nat) (R : Nat → Int) : Prop where
  cell : ∀ j, j < m → w.cell? ⟨g, o + j, none⟩ = some (.int .u8 (R j))
  frz : ∀ j, j < m → w.frozen? ⟨g, o + j, none⟩ = false

theorem Row.kept {g o m : Nat} {R : Nat → Int} (h : Row w g o m R) (k : Kept S w w') (hg : g < w.heap.size) (hs : ¬ S g) : Row w' g o m R :=
  ⟨fun j hj => (k.cell (p := ⟨g, o + j, none⟩) hg hs).trans (h.cell j hj), fun j hj => (k.frozen (p := ⟨g, o + j, none⟩) hg hs).trans (h.frz j hj)⟩
theorem Row.congr {g o m : Nat} {R R' : Nat → Int} (h : Row w g o m R) (hR : ∀ j, j < m → R j = R' j) : Row w g o m R' :=
  ⟨fun j hj => by rw [← hR j hj]; exact h.cell j hj, h.frz⟩

/-- The list of n bytes. -/
def bytes (n : Nat) (R : Nat → Int) : List Value := (List.range n).map fun j => .int .u8 (R j)
theorem bytes_length (n : Nat) (R : Nat → Int) : (bytes n R).length = n := by simp [bytes]
theorem bytes_get {n : Nat} {R : Nat → Int} {j : Nat} {v : Value} (h : (bytes n R)[j]? = some v) : j < n ∧ v = .int .u8 (R j) := by
  unfold bytes at h
  simp only [List.getElem?_map, Option.map_eq_some_iff] at h
  obtain ⟨i, hi, rfl⟩ := h
  have h1 := (List.getElem?_eq_some_iff.1 hi).1
  have h2 := (List.getElem?_eq_some_iff.1 hi).2
  simp at h1 h2
  subst h2
  exact ⟨h1, rfl⟩
theorem bytes_one (n : Nat) (R : Nat → Int) : ∀ v ∈ bytes n R, v.oneCell' = true := by
  intro v hv
  obtain ⟨i, _, rfl⟩ := List.mem_map.1 hv
  rfl

/-- A run of stores inside a row. -/
theorem Row.stores {g o m : Nat} {R : Nat → Int} (h : Row w g o m R) (s n : Nat) (X : Nat → Int) (hn : s + n ≤ m) :
    Row (w.setCells g (o + s) (bytes n X)) g o m (fun j => if s ≤ j ∧ j < s + n then X (j - s) else R j) := by
  refine ⟨fun j hj => ?_, fun j hj => (World.frozen?_setCells g _ _ _ _).trans (h.frz j hj)⟩
  by_cases hs : s ≤ j ∧ j < s + n
  · have h1 := World.cell?_setCells_in g (bytes n X) (o + s) w (fun i hi => by
      rw [bytes_length] at hi
      rw [show o + s + i = o + (s + i) by omega, h.cell (s + i) (by omega)]
      rfl) (j - s) (by rw [bytes_length]; omega)
    rw [show o + s + (j - s) = o + j by omega] at h1
    rw [h1]
    simp [bytes, hs]
  · rw [if_neg hs, World.cell?_setCells_out g _ _ _ _ (fun _ _ => by rw [bytes_length]; show o + j < o + s ∨ o + s + n ≤ o + j; omega)]
    exact h.cell j hj

/-- A row that 'make' has just laid. -/
theorem Row.made (w : World) (e : TypeId) (n : Nat) : Row (w.alloc (.cells (madeCells #[.int .u8 0] n) e)) w.heap.size 0 n (fun _ => 0) := by
  have hg : (w.alloc (.cells (madeCells #[.int .u8 0] n) e)).heap[w.heap.size]? = some (.cells (madeCells #[.int .u8 0] n) e (0, 0)) := (MapKept.heap_alloc w _).1
  refine ⟨fun j hj => ?_, fun j _ => ?_⟩
  · simp only [World.cell?, hg]
    simp [madeCells, hj, Nat.mod_one]
  · simp only [World.frozen?, hg]
    simp

section
variable {P : Program} {sl e : TypeId}

/-- 'copy(dst, src)', both rows of bytes. -/
theorem run_copy_bytes (hu : P.underlying sl = some (.slice e)) (hs : (P.info? e).map (·.size) = some 1) (ty : TypeId) (w : World) (g o dLen dCap : Nat) (b off sLen sCap n : Nat) (X : Nat → Int) (hn : n = Nat.min sLen dLen) {m : Nat} {R : Nat → Int}
    (hrow : Row w g o m R) (hm : n ≤ m) (hsrc : ∀ j, j < n → w.cell? ⟨b, off + j, none⟩ = some (.int .u8 (X j))) :
    (Builtin.copy_ #[sl, sl] ty #[.slice (some ⟨g, o, none⟩) dLen dCap, .slice (some ⟨b, off, none⟩) sLen sCap]).run P w = .ok (goInt n) (w.setCells g o (bytes n X)) := by
  have := run_copy_cells (P := P) w sl sl ty e g o dLen dCap ⟨b, off, none⟩ sLen sCap (bytes n X) hu hs (by rw [bytes_length]; exact hn)
    (fun j v hv => by
      obtain ⟨hj, rfl⟩ := bytes_get hv
      rw [WideShapes.add_plain]
      exact hsrc j hj)
    (fun j hj => by rw [bytes_length] at hj; rw [hrow.cell j (by omega)]; rfl) (fun j hj => by rw [bytes_length] at hj; exact hrow.frz j (by omega)) (bytes_one n X)
  rw [bytes_length] at this
  exact this
end
end Go.Proofs.YbulkcupaFmt
