/-
  DERIVED. THE PLAIN LAW under FnOrElseChainIsAnyAndAll: no Go in sight.
-/
namespace Go.Proofs.Qxb6614043aMods.Chain

/-- 'some of the first k': from the left -/
def anyTo (x : Bool) (S : Nat → Bool) : Nat → Bool
  | 0 => x
  | k + 1 => anyTo x S k || S k
/-- 'all of the first k': from the left -/
def allTo (x : Bool) (F : Nat → Bool) : Nat → Bool
  | 0 => x
  | k + 1 => allTo x F k && F k
/-- 'some of the last c' of n: from the right -/
def anyR (S : Nat → Bool) (n : Nat) : Nat → Bool
  | 0 => false
  | c + 1 => S (n - 1 - c) || anyR S n c
/-- 'all of the last c' of n: from the right -/
def allR (F : Nat → Bool) (n : Nat) : Nat → Bool
  | 0 => true
  | c + 1 => F (n - 1 - c) && allR F n c

theorem anyTo_iff (x : Bool) (S : Nat → Bool) (k : Nat) : anyTo x S k = true ↔ (x = true ∨ ∃ j, j < k ∧ S j = true) := by
  induction k with
  | zero => simp [anyTo]
  | succ k ih =>
    simp only [anyTo, Bool.or_eq_true, ih]
    constructor
    · rintro ((h | ⟨j, hj, h⟩) | h)
      · exact Or.inl h
      · exact Or.inr ⟨j, by omega, h⟩
      · exact Or.inr ⟨k, by omega, h⟩
    · rintro (h | ⟨j, hj, h⟩)
      · exact Or.inl (Or.inl h)
      · by_cases e : j = k
        · subst e; exact Or.inr h
        · exact Or.inl (Or.inr ⟨j, by omega, h⟩)

theorem allTo_iff (x : Bool) (F : Nat → Bool) (k : Nat) : allTo x F k = true ↔ (x = true ∧ ∀ j, j < k → F j = true) := by
  induction k with
  | zero => simp [allTo]
  | succ k ih =>
    simp only [allTo, Bool.and_eq_true, ih]
    constructor
    · rintro ⟨⟨h, hs⟩, hk⟩
      refine ⟨h, fun j hj => ?_⟩
      by_cases e : j = k
      · subst e; exact hk
      · exact hs j (by omega)
    · rintro ⟨h, hs⟩
      exact ⟨⟨h, fun j hj => hs j (by omega)⟩, hs k (by omega)⟩

theorem anyR_iff (S : Nat → Bool) (n : Nat) : ∀ c, c ≤ n → (anyR S n c = true ↔ ∃ j, n ≤ j + c ∧ j < n ∧ S j = true) := by
  intro c
  induction c with
  | zero => intro _; simp [anyR]; intro j h1 h2; omega
  | succ c ih =>
    intro hc
    simp only [anyR, Bool.or_eq_true, ih (by omega)]
    constructor
    · rintro (h | ⟨j, h1, h2, h3⟩)
      · exact ⟨n - 1 - c, by omega, by omega, h⟩
      · exact ⟨j, by omega, h2, h3⟩
    · rintro ⟨j, h1, h2, h3⟩
      by_cases e : j = n - 1 - c
      · subst e; exact Or.inl h3
      · exact Or.inr ⟨j, by omega, h2, h3⟩

theorem allR_iff (F : Nat → Bool) (n : Nat) : ∀ c, c ≤ n → (allR F n c = true ↔ ∀ j, n ≤ j + c → j < n → F j = true) := by
  intro c
  induction c with
  | zero => intro _; simp [allR]; intro j h1 h2; omega
  | succ c ih =>
    intro hc
    simp only [allR, Bool.and_eq_true, ih (by omega)]
    constructor
    · rintro ⟨h, hs⟩ j h1 h2
      by_cases e : j = n - 1 - c
      · subst e; exact h
      · exact hs j (by omega) h2
    · intro hs
      exact ⟨hs _ (by omega) (by omega), fun j h1 h2 => hs j (by omega) h2⟩

theorem any_right (x : Bool) (S : Nat → Bool) (n : Nat) : (x || anyR S n n) = anyTo x S n := by
  rw [Bool.eq_iff_iff, Bool.or_eq_true, anyTo_iff, anyR_iff S n n (Nat.le_refl _)]
  constructor
  · rintro (h | ⟨j, _, h2, h3⟩)
    · exact Or.inl h
    · exact Or.inr ⟨j, h2, h3⟩
  · rintro (h | ⟨j, h2, h3⟩)
    · exact Or.inl h
    · exact Or.inr ⟨j, by omega, h2, h3⟩

theorem all_right (x : Bool) (F : Nat → Bool) (n : Nat) : (x && allR F n n) = allTo x F n := by
  rw [Bool.eq_iff_iff, Bool.and_eq_true, allTo_iff, allR_iff F n n (Nat.le_refl _)]
  constructor
  · rintro ⟨h, hs⟩
    exact ⟨h, fun j hj => hs j (by omega) hj⟩
  · rintro ⟨h, hs⟩
    exact ⟨h, fun j _ hj => hs j hj⟩

theorem anyTo_succ (x : Bool) (S : Nat → Bool) (k : Nat) : anyTo x S (k + 1) = (anyTo x S k || S k) := rfl
theorem allTo_succ (x : Bool) (F : Nat → Bool) (k : Nat) : allTo x F (k + 1) = (allTo x F k && F k) := rfl
theorem anyR_succ (S : Nat → Bool) (n c : Nat) : anyR S n (c + 1) = (S (n - 1 - c) || anyR S n c) := rfl
theorem allR_succ (F : Nat → Bool) (n c : Nat) : allR F n (c + 1) = (F (n - 1 - c) && allR F n c) := rfl
theorem anyR_one (S : Nat → Bool) (n : Nat) : anyR S n 1 = S (n - 1) := by simp [anyR]
theorem allR_one (F : Nat → Bool) (n : Nat) : allR F n 1 = F (n - 1) := by simp [allR]
theorem anyR_step (S : Nat → Bool) (n m : Nat) (h : m < n) : anyR S n (n - m) = (S m || anyR S n (n - (m + 1))) := by
  obtain ⟨c, hc⟩ : ∃ c, n - (m + 1) = c := ⟨_, rfl⟩
  rw [hc, show n - m = c + 1 by omega, anyR_succ, show n - 1 - c = m by omega]
theorem allR_step (F : Nat → Bool) (n m : Nat) (h : m < n) : allR F n (n - m) = (F m && allR F n (n - (m + 1))) := by
  obtain ⟨c, hc⟩ : ∃ c, n - (m + 1) = c := ⟨_, rfl⟩
  rw [hc, show n - m = c + 1 by omega, allR_succ, show n - 1 - c = m by omega]
/-- the right fold as the walk holds it: the elements from m on, of n + 1 -/
def anyFrom (S : Nat → Bool) (n m : Nat) : Bool := anyR S (n + 1) (n + 1 - m)
def allFrom (F : Nat → Bool) (n m : Nat) : Bool := allR F (n + 1) (n + 1 - m)
theorem anyFrom_last (S : Nat → Bool) (n : Nat) : anyFrom S n n = S n := by
  unfold anyFrom; rw [show n + 1 - n = 1 by omega, anyR_one]; rfl
theorem allFrom_last (F : Nat → Bool) (n : Nat) : allFrom F n n = F n := by
  unfold allFrom; rw [show n + 1 - n = 1 by omega, allR_one]; rfl
theorem anyFrom_step (S : Nat → Bool) (n m : Nat) (h : m < n) : anyFrom S n m = (S m || anyFrom S n (m + 1)) := anyR_step S (n + 1) m (by omega)
theorem allFrom_step (F : Nat → Bool) (n m : Nat) (h : m < n) : allFrom F n m = (F m && allFrom F n (m + 1)) := allR_step F (n + 1) m (by omega)
theorem anyFrom_all (x : Bool) (S : Nat → Bool) (n : Nat) : (x || anyFrom S n 0) = anyTo x S (n + 1) := any_right x S (n + 1)
theorem allFrom_all (x : Bool) (F : Nat → Bool) (n : Nat) : (x && allFrom F n 0) = allTo x F (n + 1) := all_right x F (n + 1)

end Go.Proofs.Qxb6614043aMods.Chain
