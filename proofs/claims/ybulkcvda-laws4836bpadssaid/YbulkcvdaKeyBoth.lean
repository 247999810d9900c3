/-
  key, whole: what it leaves for a token no longer than a block ('Short') and for a longer one ('Long').
-/
import Derived.Test.YbulkcvdaKeyAny
namespace Go.Proofs.Ybulkcvda
open Go.RowKit

/-- What key leaves, the token no longer than a block. -/
structure Short (hb B : Nat) (t : ByteArray) (W : World) (pb : Nat) : Prop where
  row : Row W pb 0 (2 * B) (padTo B (fun j => if j < t.size then byteAt t j else 0) B)
  c2 : W.cell? ⟨hb, 2, none⟩ = some (.int .i64 0)
  c3 : W.cell? ⟨hb, 3, none⟩ = some (.int .i64 0)
  c4 : W.cell? ⟨hb, 4, none⟩ = some (.slice none 0 0)
/-- .. longer. -/
structure Long (hb B dn : Nat) (D : Nat → Int) (t : ByteArray) (W : World) (pb : Nat) : Prop where
  row : Row W pb 0 (2 * B) (padTo B (fun j => if j < dn then D j else 0) B)
  c2 : W.cell? ⟨hb, 2, none⟩ = some (.int .i64 1)
  c3 : W.cell? ⟨hb, 3, none⟩ = some (.int .i64 1)
  c4 : ∃ g cap, W.cell? ⟨hb, 4, none⟩ = some (.slice (some ⟨g, 0, none⟩) t.size cap) ∧ ∀ j, j < t.size → W.cell? ⟨g, 0 + j, none⟩ = some (.int .u8 (byteAt t j))

/-- The hash as the law lays it. -/
structure Hash (w : World) (hb db B dn : Nat) (D : Nat → Int) : Prop where
  lt : hb < w.heap.size
  ltd : db < w.heap.size
  ne : db ≠ hb
  c0 : w.cell? ⟨hb, 0, none⟩ = some (.int .i64 B)
  c1 : w.cell? ⟨hb, 1, none⟩ = some (.slice (some ⟨db, 0, none⟩) dn dn)
  c2 : w.cell? ⟨hb, 2, none⟩ = some (.int .i64 0)
  c3 : w.cell? ⟨hb, 3, none⟩ = some (.int .i64 0)
  c4 : w.cell? ⟨hb, 4, none⟩ = some (.slice none 0 0)
  fz : ∀ j, w.frozen? ⟨hb, j, none⟩ = false
  d : ∀ j, j < dn → w.cell? ⟨db, 0 + j, none⟩ = some (.int .u8 (D j))

theorem Hash.kept {w w' : World} {hb db B dn : Nat} {D : Nat → Int} {S : Nat → Prop} (h : Hash w hb db B dn D) (k : Kept S w w') (h1 : ¬ S hb) (h2 : ¬ S db) : Hash w' hb db B dn D :=
  ⟨Nat.lt_of_lt_of_le h.lt k.size, Nat.lt_of_lt_of_le h.ltd k.size, h.ne, (k.cell (p := ⟨hb, 0, none⟩) h.lt h1).trans h.c0, (k.cell (p := ⟨hb, 1, none⟩) h.lt h1).trans h.c1, (k.cell (p := ⟨hb, 2, none⟩) h.lt h1).trans h.c2, (k.cell (p := ⟨hb, 3, none⟩) h.lt h1).trans h.c3,
    (k.cell (p := ⟨hb, 4, none⟩) h.lt h1).trans h.c4, fun j => (k.frozen (p := ⟨hb, j, none⟩) h.lt h1).trans (h.fz j), fun j hj => (k.cell (p := ⟨db, 0 + j, none⟩) h.ltd h2).trans (h.d j hj)⟩

theorem key_short (cb vb hb db B dn : Nat) (D : Nat → Int) (t : ByteArray) (w : World) (hB : B ≤ 64) (hB0 : 0 < B) (ht : t.size ≤ B) (hcb : cb < w.heap.size) (hvb : vb < w.heap.size) (n1 : cb ≠ vb) (n2 : cb ≠ hb) (n3 : cb ≠ db)
    (c0 : w.cell? ⟨cb, 0, none⟩ = some (.int .i64 0)) (fc : w.frozen? ⟨cb, 0, none⟩ = false) (v0 : w.cell? ⟨vb, 0, none⟩ = some (.pointer (some ⟨hb, 0, none⟩))) (hh : Hash w hb db B dn D) :
    Calls Yba.prog 13 #[.agg #[.func (.func 12) #[] #[.pointer (some ⟨cb, 0, none⟩), .pointer (some ⟨vb, 0, none⟩)], .int .i64 32, .string ByteArray.empty], .string t] w
      fun e w' => ∃ pb, e = .returned (.agg #[.iface 35 (.pointer (some ⟨hb, 0, none⟩)), .slice (some ⟨pb, 0, none⟩) B B, .slice (some ⟨pb, B, none⟩) B B]) ∧ w.heap.size < pb ∧ Kept (fun k => k = cb ∨ k = hb) w w' ∧ w'.cell? ⟨cb, 0, none⟩ = some (.int .i64 1) ∧ ∀ W', Kept (fun k => k < pb ∧ k ≠ hb) w' W' → Short hb B t W' pb := by
  refine key_any (Short hb B t) cb vb hb B t w hB hB0 hcb hvb hh.lt n1 n2 c0 fc v0 hh.c0 fun W pb hp1 hp2 hr hk => ?_
  have hh' := hh.kept hk (Ne.symm n2) (Ne.symm n3)
  have hne : pb ≠ hb := by have := hh.lt; omega
  refine (setKey_short _ pb B t W hB hB0 ht hp2 hr).mono ?_
  rintro e w' ⟨rfl, k', r'⟩
  have hh2 := hh'.kept k' (Ne.symm hne) (by show ¬ db = pb; have := hh.ltd; omega)
  refine ⟨rfl, k'.mono (fun _ _ h => .inl h), fun W' hW' => ⟨r'.kept hW' (Nat.lt_of_lt_of_le hp2 k'.size) (fun h => by omega), ?_, ?_, ?_⟩⟩
  · exact (hW'.cell (p := ⟨hb, 2, none⟩) hh2.lt (fun h => h.2 rfl)).trans hh2.c2
  · exact (hW'.cell (p := ⟨hb, 3, none⟩) hh2.lt (fun h => h.2 rfl)).trans hh2.c3
  · exact (hW'.cell (p := ⟨hb, 4, none⟩) hh2.lt (fun h => h.2 rfl)).trans hh2.c4

theorem key_long (cb vb hb db B dn : Nat) (D : Nat → Int) (t : ByteArray) (w : World) (hB : B ≤ 64) (hB0 : 0 < B) (ht : B < t.size) (ht2 : t.size ≤ 4096) (hdn : dn ≤ B) (hcb : cb < w.heap.size) (hvb : vb < w.heap.size) (n1 : cb ≠ vb) (n2 : cb ≠ hb) (n3 : cb ≠ db)
    (c0 : w.cell? ⟨cb, 0, none⟩ = some (.int .i64 0)) (fc : w.frozen? ⟨cb, 0, none⟩ = false) (v0 : w.cell? ⟨vb, 0, none⟩ = some (.pointer (some ⟨hb, 0, none⟩))) (hh : Hash w hb db B dn D) :
    Calls Yba.prog 13 #[.agg #[.func (.func 12) #[] #[.pointer (some ⟨cb, 0, none⟩), .pointer (some ⟨vb, 0, none⟩)], .int .i64 32, .string ByteArray.empty], .string t] w
      fun e w' => ∃ pb, e = .returned (.agg #[.iface 35 (.pointer (some ⟨hb, 0, none⟩)), .slice (some ⟨pb, 0, none⟩) B B, .slice (some ⟨pb, B, none⟩) B B]) ∧ w.heap.size < pb ∧ Kept (fun k => k = cb ∨ k = hb) w w' ∧ w'.cell? ⟨cb, 0, none⟩ = some (.int .i64 1) ∧ ∀ W', Kept (fun k => k < pb ∧ k ≠ hb) w' W' → Long hb B dn D t W' pb := by
  refine key_any (Long hb B dn D t) cb vb hb B t w hB hB0 hcb hvb hh.lt n1 n2 c0 fc v0 hh.c0 fun W pb hp1 hp2 hr hk => ?_
  have hh' := hh.kept hk (Ne.symm n2) (Ne.symm n3)
  have hne : pb ≠ hb := by have := hh.lt; omega
  have hne2 : db ≠ pb := by have := hh.ltd; omega
  refine (setKey_long hb pb db B dn D t W hB hB0 ht ht2 hdn hp2 hh'.lt hh'.ltd hne hh'.ne hne2 hr hh'.c1 hh'.c2 hh'.c3 hh'.c4 hh'.fz hh'.d).mono ?_
  rintro e w' ⟨rfl, k', r', q2, q3, g, cap, hg, q4, qx⟩
  have hlt' : hb < w'.heap.size := Nat.lt_of_lt_of_le hh'.lt k'.size
  refine ⟨rfl, k', fun W' hW' => ⟨r'.kept hW' (Nat.lt_of_lt_of_le hp2 k'.size) (fun h => by omega), ?_, ?_, g, cap, ?_, fun j hj => ?_⟩⟩
  · exact (hW'.cell (p := ⟨hb, 2, none⟩) hlt' (fun h => h.2 rfl)).trans q2
  · exact (hW'.cell (p := ⟨hb, 3, none⟩) hlt' (fun h => h.2 rfl)).trans q3
  · exact (hW'.cell (p := ⟨hb, 4, none⟩) hlt' (fun h => h.2 rfl)).trans q4
  · exact (hW'.cell (p := ⟨g, 0 + j, none⟩) (World.block_lt_of_cell? _ _ (qx j hj)) (fun h => by have := h.1; simp at this; omega)).trans (qx j hj)
end Go.Proofs.Ybulkcvda
