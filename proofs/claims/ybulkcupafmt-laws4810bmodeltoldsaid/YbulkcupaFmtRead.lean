/-
  readIE, IE.End, IE.CheckLength, binary.BigEndian.Uint16: what each leaves, over the octets of a PDU ('Pdu').
-/
import Derived.Test.YbulkcupaFmtErr
import Derived.Deep.QuietTactic
import Derived.BigQuiet
import Derived.Handy
import Derived.Lib.EndianBits
namespace Go.Proofs.YbulkcupaFmt
open Go.RowKit Go.Extern.Stop Go.Stop Go.Extern

/-- The PDU: n octets R at the start of block g. -/
structure Pdu (w : World) (g n : Nat) (R : Nat → Nat) : Prop where
  lt : g < w.heap.size
  cell : ∀ j, j < n → w.cell? ⟨g, j, none⟩ = some (.int .u8 (R j : Int))
  byte : ∀ j, j < n → R j < 256
  len : n ≤ 65535

theorem Pdu.kept {S : Nat → Prop} {w w' : World} {g n : Nat} {R : Nat → Nat} (h : Pdu w g n R) (k : Kept S w w') (hs : ¬ S g) : Pdu w' g n R :=
  ⟨Nat.lt_of_lt_of_le h.lt k.size, fun j hj => (k.cell (p := ⟨g, j, none⟩) h.lt hs).trans (h.cell j hj), h.byte, h.len⟩
theorem Pdu.below {w w' : World} {g n : Nat} {R : Nat → Nat} (h : Pdu w g n R) (k : Below w.heap.size w w') : Pdu w' g n R := h.kept (Kept.ofBelow k (fun _ => False)) id
theorem Pdu.alloc {w : World} {g n : Nat} {R : Nat → Nat} (h : Pdu w g n R) (o : Obj) : Pdu (w.alloc o) g n R := h.kept (S := fun _ => False) (Kept.alloc (Kept.refl _ w) o) id

theorem and128 : ∀ x : Nat, x < 256 → bits .and .u8 (x : Int) 128 = if x < 128 then 0 else 128 := by
  have : ∀ x : Fin 256, bits .and .u8 ((x.val : Nat) : Int) 128 = if x.val < 128 then 0 else 128 := by decide +kernel
  exact fun x hx => this ⟨x, hx⟩
theorem and127 : ∀ x : Nat, x < 256 → bits .and .u8 (x : Int) 127 = if x < 128 then (x : Int) else (x : Int) - 128 := by
  have : ∀ x : Fin 256, bits .and .u8 ((x.val : Nat) : Int) 127 = if x.val < 128 then (x.val : Int) else (x.val : Int) - 128 := by decide +kernel
  exact fun x hx => this ⟨x, hx⟩

theorem or_i64 (x y : Nat) (hx : x < 256) (hy : y < 256) : bits .or .i64 ((x : Int) * 256) (y : Int) = (x : Int) * 256 + y :=
  bits_join .i64 16 (by decide) (fun n h0 h1 => IntWalk.i64_in (by omega) (by omega)) 8 _ _ (by omega) (by omega) (by omega) (by omega) (by omega) (by omega)
theorem or_u16 (x y : Nat) (hx : x < 256) (hy : y < 256) : bits .or .u16 ((x : Int) * 256) (y : Int) = (x : Int) * 256 + y :=
  bits_join .u16 16 (by decide) wraps_u16 8 _ _ (by omega) (by omega) (by omega) (by omega) (by omega) (by omega)
theorem or_u16' (x y : Nat) (hx : x < 256) (hy : y < 256) : bits .or .u16 (y : Int) ((x : Int) * 256) = (x : Int) * 256 + y := by
  rw [u16_or8 _ _ (by omega) (by omega) (by omega) (by omega) (by omega)]; omega

theorem end26 (i : Int) (a : Option Addr) (l c : Nat) (o v : Int) (w : World) :
    Calls Ybaf.prog 26 #[.agg #[.int .u8 i, .slice a l c, .int .i64 o, .int .i64 v]] w fun e w' => e = .returned (.int .i64 (wrap64 (v + l))) ∧ Below w.heap.size w w' := by
  go_enter Ybaf.func26, Ybaf.ntmps26
  go_wp2
  go_ret
  exact ⟨rfl, (Below.refl _ w).alloc (Nat.le_refl _) _⟩

/-- What readIE leaves where it can read the IE: its value is the l octets from p on. -/
def Read (g p l off iei : Nat) (w : World) (e : Ending) (w' : World) : Prop :=
  ∃ a c, (0 < l → a = some ⟨g, p, none⟩ ∧ l ≤ c) ∧ e = .returned (.tuple #[.agg #[.int .u8 (iei : Int), .slice a l c, .int .i64 (off : Int), .int .i64 (p : Int)], .nilIface]) ∧ Below w.heap.size w w'
/-- .. and where it cannot. -/
def Unread (o : Nat) (w : World) (e : Ending) (w' : World) : Prop :=
  ∃ q, e = .returned (.tuple #[.agg #[.int .u8 0, .slice none (0 : Nat) (0 : Nat), .int .i64 0, .int .i64 0], .iface 48 (.pointer (some ⟨q, 0, none⟩))]) ∧ w.heap.size ≤ q ∧ w'.cell? ⟨q, 0, none⟩ = some (.int .i64 (o : Int)) ∧ Below w.heap.size w w'

set_option maxRecDepth 100000 in
theorem readIE_short (g n cap off : Nat) (R : Nat → Nat) (w : World) (h : Pdu w g n R) (hcap : n ≤ cap) (h1 : off + 1 < n) (h2 : 128 ≤ R (off + 1)) (h3 : R (off + 1) - 128 ≤ n - (off + 2)) :
    Calls Ybaf.prog 25 #[.slice (some ⟨g, 0, none⟩) n cap, .int .i64 off] w (Read g (off + 2) (R (off + 1) - 128) off (R off) w) := by
  have hw := h.alloc (.cells #[.int .u8 0, .slice none 0 0, .int .i64 0, .int .i64 0] 63)
  have c0 := hw.cell off (by omega)
  have c1 := hw.cell (off + 1) (by omega)
  have a1 := and128 _ (h.byte (off + 1) (by omega))
  have a2 := and127 _ (h.byte (off + 1) (by omega))
  have b1 := h.byte (off + 1) (by omega)
  rw [if_neg (by omega)] at a1 a2
  have hd1 : decide ((off : Int) + 1 < n) = true := by simp; omega
  have hlen := h.len
  clear hw h
  go_enter Ybaf.func25, Ybaf.ntmps25
  go_wp2
  · go_returns
    exact ⟨some ⟨g, 0, none⟩, 0, fun h => by omega, by simp [Int.add_assoc], by go_grown⟩
  · go_returns
    exact ⟨some ⟨g, off + 2, none⟩, cap - (off + 2), fun h => ⟨rfl, by omega⟩, by simp [Int.add_assoc], by go_grown⟩

set_option maxRecDepth 100000 in
theorem readIE_noLen (F : Interp) (g n cap off : Nat) (R : Nat → Nat) (w : World) (hF : F.answers w.tape) (h : Pdu w g n R) (h1 : off + 1 = n) :
    Calls Ybaf.prog 25 #[.slice (some ⟨g, 0, none⟩) n cap, .int .i64 off] w (Unread (off + 1) w) := by
  have hw := h.alloc (.cells #[.int .u8 0, .slice none 0 0, .int .i64 0, .int .i64 0] 63)
  have c0 := hw.cell off (by omega)
  have hlen := h.len
  clear hw h
  subst h1
  go_enter Ybaf.func25, Ybaf.ntmps25
  go_wp2_with fail
  refine (err_noLen F _ (w.heap.size + 1) (R off) _ (by exact hF) (by go_cell)).mono ?_
  rintro e w2 ⟨t, rfl, rfl⟩
  go_wp2_with fail
  go_returns
  exact ⟨_, rfl, by omega, by go_cell, by go_grown⟩

set_option maxRecDepth 100000 in
theorem readIE_shortPast (F : Interp) (g n cap off : Nat) (R : Nat → Nat) (w : World) (hF : F.answers w.tape) (h : Pdu w g n R) (h1 : off + 1 < n) (h2 : 128 ≤ R (off + 1)) (h3 : ¬ R (off + 1) - 128 ≤ n - (off + 2)) :
    Calls Ybaf.prog 25 #[.slice (some ⟨g, 0, none⟩) n cap, .int .i64 off] w (Unread off w) := by
  have hw := h.alloc (.cells #[.int .u8 0, .slice none 0 0, .int .i64 0, .int .i64 0] 63)
  have c0 := hw.cell off (by omega)
  have c1 := hw.cell (off + 1) (by omega)
  have a1 := and128 _ (h.byte (off + 1) (by omega))
  have a2 := and127 _ (h.byte (off + 1) (by omega))
  have b1 := h.byte (off + 1) (by omega)
  rw [if_neg (by omega)] at a1 a2
  have hd1 : decide ((off : Int) + 1 < n) = true := by simp; omega
  have hlen := h.len
  clear hw h
  go_enter Ybaf.func25, Ybaf.ntmps25
  go_wp2_with fail
  refine (err_runsPast F _ (w.heap.size + 1) (R off) ((R (off + 1) : Int) - 128) _ (by exact hF) (by go_cell) (by go_cell)).mono ?_
  rintro e w2 ⟨t, rfl, rfl⟩
  go_wp2_with fail
  go_returns
  exact ⟨_, rfl, by omega, by go_cell, by go_grown⟩

set_option maxRecDepth 100000 in
theorem readIE_cutShort (F : Interp) (g n cap off : Nat) (R : Nat → Nat) (w : World) (hF : F.answers w.tape) (h : Pdu w g n R) (h1 : off + 2 = n) (h2 : R (off + 1) < 128) :
    Calls Ybaf.prog 25 #[.slice (some ⟨g, 0, none⟩) n cap, .int .i64 off] w (Unread (off + 1) w) := by
  have hw := h.alloc (.cells #[.int .u8 0, .slice none 0 0, .int .i64 0, .int .i64 0] 63)
  have c0 := hw.cell off (by omega)
  have c1 := hw.cell (off + 1) (by omega)
  have a1 := and128 _ (h.byte (off + 1) (by omega))
  rw [if_pos (by omega)] at a1
  have hd1 : decide ((off : Int) + 1 < n) = true := by simp; omega
  have hlen := h.len
  clear hw h
  subst h1
  go_enter Ybaf.func25, Ybaf.ntmps25
  go_wp2_with fail
  refine (err_cutShort F _ (w.heap.size + 1) (R off) _ (by exact hF) (by go_cell)).mono ?_
  rintro e w2 ⟨t, rfl, rfl⟩
  go_wp2_with fail
  go_returns
  exact ⟨_, rfl, by omega, by go_cell, by go_grown⟩

set_option maxRecDepth 100000 in
theorem readIE_long (g n cap off : Nat) (R : Nat → Nat) (w : World) (h : Pdu w g n R) (hcap : n ≤ cap) (h1 : off + 2 < n) (h2 : R (off + 1) < 128) (h3 : R (off + 1) * 256 + R (off + 2) ≤ n - (off + 3)) :
    Calls Ybaf.prog 25 #[.slice (some ⟨g, 0, none⟩) n cap, .int .i64 off] w (Read g (off + 3) (R (off + 1) * 256 + R (off + 2)) off (R off) w) := by
  have hw := h.alloc (.cells #[.int .u8 0, .slice none 0 0, .int .i64 0, .int .i64 0] 63)
  have c0 := hw.cell off (by omega)
  have c1 := hw.cell (off + 1) (by omega)
  have c2 := hw.cell (off + 2) (by omega)
  have a1 := and128 _ (h.byte (off + 1) (by omega))
  have b2 := h.byte (off + 2) (by omega)
  rw [if_pos (by omega)] at a1
  have ho := or_i64 (R (off + 1)) (R (off + 2)) (by omega) b2
  have hd1 : decide ((off : Int) + 1 < n) = true := by simp; omega
  have hlen := h.len
  clear hw h
  go_enter Ybaf.func25, Ybaf.ntmps25
  go_wp2_with fail
  go_quiet (fail)
  go_wp2_with fail
  · go_returns
    exact ⟨some ⟨g, 0, none⟩, 0, fun h => by omega, by simp [Int.add_assoc], by go_grown; exact below_drewN (by go_grown) nq⟩
  · go_returns
    exact ⟨some ⟨g, off + 3, none⟩, cap - (off + 3), fun h => ⟨rfl, by omega⟩, by simp [Int.add_assoc], by go_grown; exact below_drewN (by go_grown) nq⟩

set_option maxRecDepth 100000 in
theorem readIE_longPast (F : Interp) (g n cap off : Nat) (R : Nat → Nat) (w : World) (hF : F.answers w.tape) (h : Pdu w g n R) (h1 : off + 2 < n) (h2 : R (off + 1) < 128) (h3 : ¬ R (off + 1) * 256 + R (off + 2) ≤ n - (off + 3)) :
    Calls Ybaf.prog 25 #[.slice (some ⟨g, 0, none⟩) n cap, .int .i64 off] w (Unread off w) := by
  have hw := h.alloc (.cells #[.int .u8 0, .slice none 0 0, .int .i64 0, .int .i64 0] 63)
  have c0 := hw.cell off (by omega)
  have c1 := hw.cell (off + 1) (by omega)
  have c2 := hw.cell (off + 2) (by omega)
  have a1 := and128 _ (h.byte (off + 1) (by omega))
  have b2 := h.byte (off + 2) (by omega)
  rw [if_pos (by omega)] at a1
  have ho := or_i64 (R (off + 1)) (R (off + 2)) (by omega) b2
  have hd1 : decide ((off : Int) + 1 < n) = true := by simp; omega
  have hlen := h.len
  clear hw h
  go_enter Ybaf.func25, Ybaf.ntmps25
  go_wp2_with fail
  go_quiet (fail)
  go_wp2_with fail
  refine (err_runsPast F _ (w.heap.size + 1) (R off) ((R (off + 1) : Int) * 256 + R (off + 2)) _ (by exact hF) (by go_cell) (by go_cell)).mono ?_
  rintro e w2 ⟨t, rfl, rfl⟩
  go_wp2_with fail
  go_returns
  refine ⟨_, rfl, by omega, by go_simp, ?_⟩
  go_grown
  exact below_drewN (by go_grown) nq

/-- What readIE makes of the octets from off on: an error at o; or a value of l octets from p on. -/
inductive IeR where
  | bad (o : Nat)
  | ok (p l : Nat)

def ieAt (R : Nat → Nat) (n off : Nat) : IeR :=
  if n ≤ off + 1 then .bad (off + 1)
  else if 128 ≤ R (off + 1) then (if R (off + 1) - 128 ≤ n - (off + 2) then .ok (off + 2) (R (off + 1) - 128) else .bad off)
  else if n ≤ off + 2 then .bad (off + 1)
  else if R (off + 1) * 256 + R (off + 2) ≤ n - (off + 3) then .ok (off + 3) (R (off + 1) * 256 + R (off + 2)) else .bad off

theorem ieAt_ok {R : Nat → Nat} {n off p l : Nat} (h : ieAt R n off = .ok p l) : off + 2 ≤ p ∧ p + l ≤ n := by
  unfold ieAt at h
  split at h
  · cases h
  · split at h
    · split at h
      · cases h; omega
      · cases h
    · split at h
      · cases h
      · split at h
        · cases h; omega
        · cases h

theorem readIE_any (F : Interp) (g n cap off : Nat) (R : Nat → Nat) (w : World) (hF : F.answers w.tape) (h : Pdu w g n R) (hcap : n ≤ cap) (h1 : off < n) :
    Calls Ybaf.prog 25 #[.slice (some ⟨g, 0, none⟩) n cap, .int .i64 off] w fun e w' => match ieAt R n off with | .bad o => Unread o w e w' | .ok p l => Read g p l off (R off) w e w' := by
  unfold ieAt
  by_cases h2 : n ≤ off + 1
  · simp only [h2, if_true]; exact readIE_noLen F g n cap off R w hF h (by omega)
  · by_cases h3 : 128 ≤ R (off + 1)
    · by_cases h4 : R (off + 1) - 128 ≤ n - (off + 2)
      · simp only [h2, h3, h4, if_true, if_false]; exact readIE_short g n cap off R w h hcap (by omega) h3 h4
      · simp only [h2, h3, h4, if_true, if_false]; exact readIE_shortPast F g n cap off R w hF h (by omega) h3 h4
    · by_cases h4 : n ≤ off + 2
      · simp only [h2, h3, h4, if_true, if_false]; exact readIE_cutShort F g n cap off R w hF h (by omega) (by omega)
      · by_cases h5 : R (off + 1) * 256 + R (off + 2) ≤ n - (off + 3)
        · simp only [h2, h3, h4, h5, if_true, if_false]; exact readIE_long g n cap off R w h hcap (by omega) (by omega) h5
        · simp only [h2, h3, h4, h5, if_false]; exact readIE_longPast F g n cap off R w hF h (by omega) (by omega) h5

/-- An error at o. -/
def ErrAt (o : Nat) (w : World) (e : Ending) (w' : World) : Prop :=
  ∃ q, e = .returned (.iface 48 (.pointer (some ⟨q, 0, none⟩))) ∧ w.heap.size ≤ q ∧ w'.cell? ⟨q, 0, none⟩ = some (.int .i64 (o : Int)) ∧ Below w.heap.size w w'

theorem check_ok (i : Int) (a : Option Addr) (l c : Nat) (o v : Int) (s : ByteArray) (w : World) :
    Calls Ybaf.prog 15 #[.agg #[.int .u8 i, .slice a l c, .int .i64 o, .int .i64 v], .string s, .int .i64 (l : Int)] w fun e w' => e = .returned .nilIface ∧ Below w.heap.size w w' := by
  go_enter Ybaf.func15, Ybaf.ntmps15
  go_wp2
  go_returns
  exact ⟨rfl, by go_grown⟩
theorem check_bad (F : Interp) (i : Int) (a : Option Addr) (l c : Nat) (o : Nat) (v : Int) (s : ByteArray) (k : Nat) (w : World) (hF : F.answers w.tape) (hk : l ≠ k) :
    Calls Ybaf.prog 15 #[.agg #[.int .u8 i, .slice a l c, .int .i64 (o : Int), .int .i64 v], .string s, .int .i64 (k : Int)] w (ErrAt o w) := by
  have hk' : ((l : Int) == (k : Int)) = false := by simp; omega
  go_enter Ybaf.func15, Ybaf.ntmps15
  go_wp2_with fail
  refine (err_holds F _ (w.heap.size + 1) s l k _ (by exact hF) (by go_cell) (by go_cell) (by go_cell)).mono ?_
  rintro e w2 ⟨t, rfl, rfl⟩
  go_wp2_with fail
  go_returns
  exact ⟨_, rfl, by omega, by go_simp, by go_grown⟩

set_option maxRecDepth 100000 in
theorem uint16 (g o n c x y : Nat) (w : World) (hg : g < w.heap.size) (h2 : 2 ≤ n) (c0 : w.cell? ⟨g, o, none⟩ = some (.int .u8 (x : Int))) (c1 : w.cell? ⟨g, o + 1, none⟩ = some (.int .u8 (y : Int))) (hx : x < 256) (hy : y < 256) :
    Calls Ybaf.prog 16 #[.agg #[], .slice (some ⟨g, o, none⟩) n c] w fun e w' => e = .returned (.int .u16 ((x : Int) * 256 + y)) ∧ ∃ q, w' = (w.alloc (.cells #[] 66)).drewN q := by
  have hb : Below w.heap.size w (w.alloc (.cells #[] 66)) := by go_grown
  have d0 := (hb.cell (p := ⟨g, o, none⟩) hg).trans c0
  have d1 := (hb.cell (p := ⟨g, o + 1, none⟩) hg).trans c1
  have ho := or_u16' x y hx hy
  have h1 : (1 : Int) < (n : Int) := by omega
  have h0 : 0 < n := by omega
  go_enter Ybaf.func16, Ybaf.ntmps16
  go_wp2_with fail
  go_quiet (fail)
  go_wp2_with fail
  go_returns
  exact ⟨rfl, _, rfl⟩
end Go.Proofs.YbulkcupaFmt
