/-
  What the entries of the map say of the keys that were added: the plain law of LawS4807AFloat.
-/
import Derived.Test.YbulkcunkFloatMap
namespace Go.Proofs.Ybulkcunk

/-- How many of the first n keys equal k. -/
def cntF (f : Nat → Nat) (k : Nat) : Nat → Nat
  | 0 => 0
  | n + 1 => cntF f k n + if feq (f n) k then 1 else 0

/-- How many different keys, each equal to itself, are among the first n. -/
def distF (f : Nat → Nat) : Nat → Nat
  | 0 => 0
  | n + 1 => distF f n + if feq (f n) (f n) && (cntF f (f n) n == 0) then 1 else 0

theorem cntF_le (f : Nat → Nat) (k : Nat) : ∀ n, cntF f k n ≤ n
  | 0 => Nat.le_refl _
  | n + 1 => by have := cntF_le f k n; unfold cntF; split <;> omega
theorem distF_le (f : Nat → Nat) : ∀ n, distF f n ≤ n
  | 0 => Nat.le_refl _
  | n + 1 => by have := distF_le f n; unfold distF; split <;> omega

theorem feq_congr {a b x : Nat} (h : feq a b = true) : feq x a = feq x b := by
  cases hb : feq x b
  · cases ha : feq x a
    · rfl
    · rw [feq_trans ha h] at hb; cases hb
  · exact feq_trans hb (feq_symm h)

theorem cntF_congr (f : Nat → Nat) {a b : Nat} (h : feq a b = true) : ∀ n, cntF f a n = cntF f b n
  | 0 => rfl
  | n + 1 => by simp only [cntF, cntF_congr f h n, feq_congr (x := f n) h]

/-- A key that was met is met. -/
theorem cntF_pos (f : Nat → Nat) (k : Nat) : ∀ n, cntF f k n ≠ 0 → ∃ j, j < n ∧ feq (f j) k = true
  | 0, h => absurd rfl h
  | n + 1, h => by
    unfold cntF at h
    by_cases hq : feq (f n) k = true
    · exact ⟨n, Nat.lt_succ_self n, hq⟩
    · rw [if_neg hq] at h
      obtain ⟨j, hj, h'⟩ := cntF_pos f k n h
      exact ⟨j, Nat.lt_succ_of_lt hj, h'⟩

structure Inv (f : Nat → Nat) (n : Nat) (l : List (Nat × Int)) : Prop where
  self : ∀ p ∈ l, feq p.1 p.1 = true
  pw : l.Pairwise fun p q => feq p.1 q.1 = false
  val : ∀ p ∈ l, p.2 = cntF f p.1 n
  pos : ∀ p ∈ l, 0 < p.2
  all : ∀ j, j < n → feq (f j) (f j) = true → ∃ p ∈ l, feq (f j) p.1 = true
  len : l.length = distF f n

theorem Inv.zero (f : Nat → Nat) : Inv f 0 [] := ⟨by simp, List.Pairwise.nil, by simp, by simp, by simp, rfl⟩

theorem Inv.absent {f : Nat → Nat} {n : Nat} {l : List (Nat × Int)} (h : Inv f n l) {k : Nat} (hn : findF k l 0 = none) : cntF f k n = 0 := by
  rcases Nat.eq_zero_or_pos (cntF f k n) with h0 | h0
  · exact h0
  obtain ⟨j, hj, hq⟩ := cntF_pos f k n (by omega)
  obtain ⟨p, hp, hq'⟩ := h.all j hj (feq_self hq)
  have h1 := findF_none k l 0 hn p hp
  rw [feq_trans (feq_symm hq) hq'] at h1
  cases h1

/-- What the look-up says. -/
theorem Inv.look {f : Nat → Nat} {n : Nat} {l : List (Nat × Int)} (h : Inv f n l) (k : Nat) : ((findF k l 0).map Prod.snd).getD 0 = (cntF f k n : Int) := by
  cases hq : findF k l 0 with
  | none => simp [h.absent hq]
  | some q =>
    obtain ⟨j, v⟩ := q
    obtain ⟨p, _, hp, rfl, hpa⟩ := findF_get k l 0 j v hq
    have hmem : p ∈ l := List.mem_of_getElem? hp
    simp [h.val p hmem, cntF_congr f hpa n]

theorem Inv.nan {f : Nat → Nat} {n : Nat} {l : List (Nat × Int)} (h : Inv f n l) (hk : feq (f n) (f n) = false) : Inv f (n + 1) l := by
  refine ⟨h.self, h.pw, fun p hp => ?_, h.pos, fun j hj hs => ?_, ?_⟩
  · rw [h.val p hp]
    have : feq (f n) p.1 = false := by
      cases hq : feq (f n) p.1
      · rfl
      · rw [feq_self hq] at hk; cases hk
    simp [cntF, this]
  · rcases Nat.lt_succ_iff_lt_or_eq.1 hj with hj | rfl
    · exact h.all j hj hs
    · rw [hk] at hs; cases hs
  · rw [h.len]; simp [distF, hk]

theorem Inv.fresh {f : Nat → Nat} {n : Nat} {l : List (Nat × Int)} (h : Inv f n l) (hk : feq (f n) (f n) = true) (hn : findF (f n) l 0 = none) : Inv f (n + 1) (l ++ [(f n, (cntF f (f n) n : Int) + 1)]) := by
  have h0 := h.absent hn
  have ha := findF_none (f n) l 0 hn
  refine ⟨fun p hp => ?_, ?_, fun p hp => ?_, fun p hp => ?_, fun j hj hs => ?_, ?_⟩
  · rcases List.mem_append.1 hp with hp | hp
    · exact h.self p hp
    · simp only [List.mem_singleton] at hp; subst hp; exact hk
  · refine List.pairwise_append.2 ⟨h.pw, List.pairwise_singleton _ _, fun p hp q hq => ?_⟩
    simp only [List.mem_singleton] at hq; subst hq
    rw [feq_comm]; exact ha p hp
  · rcases List.mem_append.1 hp with hp | hp
    · rw [h.val p hp]; simp [cntF, ha p hp]
    · simp only [List.mem_singleton] at hp; subst hp; simp [cntF, hk]
  · rcases List.mem_append.1 hp with hp | hp
    · exact h.pos p hp
    · simp only [List.mem_singleton] at hp; subst hp; simp
  · rcases Nat.lt_succ_iff_lt_or_eq.1 hj with hj | rfl
    · obtain ⟨p, hp, hq⟩ := h.all j hj hs
      exact ⟨p, List.mem_append_left _ hp, hq⟩
    · exact ⟨_, List.mem_append_right _ (List.mem_singleton.2 rfl), hk⟩
  · simp [h.len, distF, hk, h0]

theorem Inv.again {f : Nat → Nat} {n : Nat} {l : List (Nat × Int)} (h : Inv f n l) {j : Nat} {p : Nat × Int} {x : Nat} (hj : l[j]? = some p) (hp : feq (f n) p.1 = true) (hx : x = f n ∨ x = p.1) :
    Inv f (n + 1) (l.set j (x, (cntF f (f n) n : Int) + 1)) := by
  have hk : feq (f n) (f n) = true := feq_self hp
  have hmem : p ∈ l := List.mem_of_getElem? hj
  have hxn : feq (f n) x = true := by rcases hx with rfl | rfl <;> assumption
  have hxp : feq p.1 x = true := feq_trans (feq_symm hp) hxn
  -- an entry at another place is no kin of the key
  have other : ∀ i q, i ≠ j → l[i]? = some q → feq (f n) q.1 = false := by
    intro i q hi hq
    obtain ⟨hil, rfl⟩ := List.getElem?_eq_some_iff.1 hq
    obtain ⟨hjl, rfl⟩ := List.getElem?_eq_some_iff.1 hj
    have hpq : feq l[j].1 l[i].1 = false := by
      rcases Nat.lt_or_gt_of_ne hi with hlt | hgt
      · rw [feq_comm]; exact List.pairwise_iff_getElem.1 h.pw i j hil hjl hlt
      · exact List.pairwise_iff_getElem.1 h.pw j i hjl hil hgt
    cases hc : feq (f n) l[i].1
    · rfl
    · rw [feq_trans (feq_symm hp) hc] at hpq; cases hpq
  have hne : cntF f (f n) n ≠ 0 := by
    intro h0
    have hv := h.val p hmem
    rw [← cntF_congr f hp, h0] at hv
    have := h.pos p hmem
    omega
  -- who stands in the new list
  have who : ∀ i q, (l.set j (x, (cntF f (f n) n : Int) + 1))[i]? = some q → (i = j ∧ q = (x, (cntF f (f n) n : Int) + 1)) ∨ (i ≠ j ∧ l[i]? = some q) := by
    intro i q hq
    by_cases e : i = j
    · subst e
      have hil := (List.getElem?_eq_some_iff.1 hj).1
      simp [hil] at hq
      exact .inl ⟨rfl, hq.symm⟩
    · rw [List.getElem?_set_ne (Ne.symm e)] at hq
      exact .inr ⟨e, hq⟩
  refine ⟨fun q hq => ?_, ?_, fun q hq => ?_, fun q hq => ?_, fun i hi hs => ?_, ?_⟩
  · obtain ⟨i, hi⟩ := List.getElem?_of_mem hq
    rcases who i q hi with ⟨_, rfl⟩ | ⟨_, hl⟩
    · exact feq_self (feq_symm hxn)
    · exact h.self q (List.mem_of_getElem? hl)
  · refine List.pairwise_iff_getElem.2 fun a b ha hb hab => ?_
    have wa := who a _ (List.getElem?_eq_getElem ha)
    have wb := who b _ (List.getElem?_eq_getElem hb)
    rcases wa with ⟨ea, ea'⟩ | ⟨na, la⟩
    · rcases wb with ⟨eb, _⟩ | ⟨nb, lb⟩
      · omega
      · rw [ea']
        have := other b _ nb lb
        cases hc : feq x ((l.set j (x, (cntF f (f n) n : Int) + 1))[b]).1
        · rfl
        · rw [feq_trans hxn hc] at this; cases this
    · rcases wb with ⟨eb, eb'⟩ | ⟨nb, lb⟩
      · rw [eb']
        have := other a _ na la
        cases hc : feq ((l.set j (x, (cntF f (f n) n : Int) + 1))[a]).1 x
        · rfl
        · rw [feq_trans hxn (feq_symm hc)] at this; cases this
      · obtain ⟨ha', ea⟩ := List.getElem?_eq_some_iff.1 la
        obtain ⟨hb', eb⟩ := List.getElem?_eq_some_iff.1 lb
        rw [← ea, ← eb]
        exact List.pairwise_iff_getElem.1 h.pw a b ha' hb' hab
  · obtain ⟨i, hi⟩ := List.getElem?_of_mem hq
    rcases who i q hi with ⟨_, rfl⟩ | ⟨ne, hl⟩
    · simp only [cntF, hxn, if_true]
      rw [cntF_congr f hxn]
      rfl
    · rw [h.val q (List.mem_of_getElem? hl)]
      simp [cntF, other i q ne hl]
  · obtain ⟨i, hi⟩ := List.getElem?_of_mem hq
    rcases who i q hi with ⟨_, rfl⟩ | ⟨_, hl⟩
    · simp
    · exact h.pos q (List.mem_of_getElem? hl)
  · have hjl := (List.getElem?_eq_some_iff.1 hj).1
    have hnew : (x, (cntF f (f n) n : Int) + 1) ∈ l.set j (x, (cntF f (f n) n : Int) + 1) := List.mem_of_getElem? (i := j) (by simp [hjl])
    rcases Nat.lt_succ_iff_lt_or_eq.1 hi with hi | rfl
    · obtain ⟨q, hq, hqq⟩ := h.all i hi hs
      obtain ⟨a, ha⟩ := List.getElem?_of_mem hq
      by_cases e : a = j
      · subst e
        rw [hj] at ha
        cases ha
        exact ⟨_, hnew, feq_trans hqq hxp⟩
      · exact ⟨q, List.mem_of_getElem? (i := a) (by rw [List.getElem?_set_ne (Ne.symm e)]; exact ha), hqq⟩
    · exact ⟨_, hnew, hxn⟩
  · simp [h.len, distF, hne]
end Go.Proofs.Ybulkcunk
