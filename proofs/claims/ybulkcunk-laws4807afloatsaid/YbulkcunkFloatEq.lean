/-
  Go's == on float64, as the model has it: symmetric and transitive. The plain mathematics alone: no program, no walk.
-/
import GoSem.Core.Float
namespace Go.Proofs.Ybulkcunk
open Ieee

/-- Go's == on two float64 words. -/
def feq (a b : Nat) : Bool := FloatKind.f64.format.order a b == some .eq

theorem signed_add (s : Bool) (m u v : Nat) : signed s m (u + v) = signed s m u * ((2 ^ v : Nat) : Int) := by
  unfold signed
  simp only [Nat.shiftLeft_eq, Nat.pow_add]
  split
  · rw [← Nat.mul_assoc, Int.natCast_mul, Int.neg_mul]
  · rw [← Nat.mul_assoc, Int.natCast_mul]

/-- A number at a lower base. -/
theorem signed_base (s : Bool) (m : Nat) (i b c : Int) (hb : b ≤ i) (hc : c ≤ b) : signed s m (i - c).toNat = signed s m (i - b).toNat * ((2 ^ (b - c).toNat : Nat) : Int) := by
  rw [← signed_add]
  congr 1
  omega

theorem mul_pow_inj {x y : Int} {v : Nat} : x * ((2 ^ v : Nat) : Int) = y * ((2 ^ v : Nat) : Int) ↔ x = y := by
  constructor
  · intro h
    have h0 : ((2 ^ v : Nat) : Int) ≠ 0 := by
      have := Nat.two_pow_pos v
      omega
    exact Int.eq_of_mul_eq_mul_right h0 h
  · intro h
    rw [h]

/-- Two numbers are equal just if they are so at any base below both. -/
theorem number_eq (s t : Bool) (m n : Nat) (i j c : Int) (hi : c ≤ i) (hj : c ≤ j) :
    (Datum.number s m i).order (.number t n j) = some .eq ↔ signed s m (i - c).toNat = signed t n (j - c).toNat := by
  simp only [Datum.order, Option.some.injEq]
  rw [signed_base s m i (min i j) c (by omega) (by omega), signed_base t n j (min i j) c (by omega) (by omega), mul_pow_inj]
  exact Std.LawfulEqCmp.compare_eq_iff_eq

theorem datum_symm {x y : Datum} (h : x.order y = some .eq) : y.order x = some .eq := by
  cases x with
  | nan => simp [Datum.order] at h
  | infinity s =>
    cases y with
    | nan => simp [Datum.order] at h
    | infinity t => cases s <;> cases t <;> simp [Datum.order] at h ⊢ <;> revert h <;> decide
    | number t n j => cases s <;> simp [Datum.order] at h
  | number s m i =>
    cases y with
    | nan => simp [Datum.order] at h
    | infinity t => cases t <;> simp [Datum.order] at h
    | number t n j =>
      rw [number_eq s t m n i j (min i j) (by omega) (by omega)] at h
      rw [number_eq t s n m j i (min i j) (by omega) (by omega)]
      exact h.symm

theorem datum_trans {x y z : Datum} (h : x.order y = some .eq) (h' : y.order z = some .eq) : x.order z = some .eq := by
  cases x with
  | nan => simp [Datum.order] at h
  | infinity s =>
    cases y with
    | nan => simp [Datum.order] at h
    | infinity t =>
      cases z with
      | nan => simp [Datum.order] at h'
      | infinity u => cases s <;> cases t <;> cases u <;> simp [Datum.order] at h h' ⊢ <;> revert h h' <;> decide
      | number u o k => cases t <;> simp [Datum.order] at h'
    | number t n j => cases s <;> simp [Datum.order] at h
  | number s m i =>
    cases y with
    | nan => simp [Datum.order] at h
    | infinity t => cases t <;> simp [Datum.order] at h
    | number t n j =>
      cases z with
      | nan => simp [Datum.order] at h'
      | infinity u => cases u <;> simp [Datum.order] at h'
      | number u o k =>
        rw [number_eq s t m n i j (min i (min j k)) (by omega) (by omega)] at h
        rw [number_eq t u n o j k (min i (min j k)) (by omega) (by omega)] at h'
        rw [number_eq s u m o i k (min i (min j k)) (by omega) (by omega)]
        exact h.trans h'

theorem feq_symm {a b : Nat} (h : feq a b = true) : feq b a = true := by
  unfold feq Format.order at *
  rw [beq_iff_eq] at *
  exact datum_symm h
theorem feq_trans {a b c : Nat} (h : feq a b = true) (h' : feq b c = true) : feq a c = true := by
  unfold feq Format.order at *
  rw [beq_iff_eq] at *
  exact datum_trans h h'
theorem feq_comm (a b : Nat) : feq a b = feq b a := by
  cases h : feq b a
  · cases h' : feq a b
    · rfl
    · rw [feq_symm h'] at h; cases h
  · exact feq_symm h
/-- What equals something equals itself. -/
theorem feq_self {a b : Nat} (h : feq a b = true) : feq a a = true := feq_trans h (feq_symm h)
end Go.Proofs.Ybulkcunk
