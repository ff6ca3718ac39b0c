/-
  DERIVED. FnFirstNotDoneMonotone: the plain law.
-/
import Derived.Test.Qxb6000432aModsSteps
namespace Go.Proofs.Qxb6000432aMods
open Go.RowKit

/-! ### the plain law -/
theorem firstFrom_spec (S : Nat → ByteArray) : ∀ m k, k ≤ firstFrom S k m ∧ firstFrom S k m ≤ k + m ∧ (∀ j, k ≤ j → j < firstFrom S k m → isDone (S j) = true) ∧ (firstFrom S k m < k + m → isDone (S (firstFrom S k m)) = false) := by
  intro m
  induction m with
  | zero => intro k; simp only [firstFrom]; exact ⟨Nat.le_refl _, Nat.le_refl _, fun j h1 h2 => by omega, fun h => by omega⟩
  | succ m ih =>
    intro k
    simp only [firstFrom]
    by_cases h : isDone (S k) = true
    · rw [if_pos h]
      obtain ⟨h1, h2, h3, h4⟩ := ih (k + 1)
      refine ⟨by omega, by omega, fun j hj1 hj2 => ?_, fun hlt => h4 (by omega)⟩
      by_cases e : j = k
      · subst e; exact h
      · exact h3 j (by omega) hj2
    · rw [if_neg h]
      exact ⟨Nat.le_refl _, by omega, fun j h1 h2 => by omega, fun _ => by simpa using h⟩

theorem firstFrom_eq (S S' : Nat → ByteArray) (n : Nat) (h : ∀ j, j < n → j ≤ firstFrom S 0 n → isDone (S' j) = isDone (S j)) : firstFrom S' 0 n = firstFrom S 0 n := by
  obtain ⟨_, b1, c1, d1⟩ := firstFrom_spec S n 0
  obtain ⟨_, b2, c2, d2⟩ := firstFrom_spec S' n 0
  rcases Nat.lt_trichotomy (firstFrom S' 0 n) (firstFrom S 0 n) with hlt | he | hgt
  · have x := d2 (by omega)
    rw [h _ (by omega) (by omega)] at x
    rw [c1 _ (Nat.zero_le _) hlt] at x
    cases x
  · exact he
  · have x := c2 _ (Nat.zero_le _) hgt
    rw [h _ (by omega) (Nat.le_refl _)] at x
    rw [d1 (by omega)] at x
    cases x

/-- is k the first, as far as the steps below j tell? -/
def fstTo (b : Bool) (S : Nat → ByteArray) : Nat → Bool
  | 0 => b
  | j + 1 => if isDone (S j) = true then fstTo b S j else false
theorem fstTo_iff (b : Bool) (S : Nat → ByteArray) (k : Nat) : fstTo b S k = true ↔ (b = true ∧ ∀ j, j < k → isDone (S j) = true) := by
  induction k with
  | zero => simp [fstTo]
  | succ k ih =>
    simp only [fstTo]
    by_cases h : isDone (S k) = true
    · rw [if_pos h, ih]
      constructor
      · rintro ⟨h1, h2⟩
        refine ⟨h1, fun j hj => ?_⟩
        by_cases e : j = k
        · subst e; exact h
        · exact h2 j (by omega)
      · rintro ⟨h1, h2⟩
        exact ⟨h1, fun j hj => h2 j (by omega)⟩
    · rw [if_neg h]
      constructor
      · intro x; cases x
      · rintro ⟨_, h2⟩; exact absurd (h2 k (by omega)) h
theorem fstTo_t {b : Bool} {S : Nat → ByteArray} {j : Nat} (h : isDone (S j) = true) : fstTo b S (j + 1) = fstTo b S j := by rw [fstTo, if_pos h]
theorem fstTo_f {b : Bool} {S : Nat → ByteArray} {j : Nat} (h : isDone (S j) = false) : fstTo b S (j + 1) = false := by rw [fstTo, if_neg (by simp [h])]

/-- the states with the k-th marked -/
def marked (S : Nat → ByteArray) (k : Nat) (i : Nat) : ByteArray := if i = k then ⟨#[68, 79, 78, 69]⟩ else S i
theorem isDone_done : isDone ⟨#[68, 79, 78, 69]⟩ = true := by decide +kernel

theorem mono_law_t (S : Nat → ByteArray) (n k : Nat) (hk : k < n) (h : fstTo (!isDone (S k)) S k = true) : firstFrom S 0 n < firstFrom (marked S k) 0 n := by
  obtain ⟨h1, h2⟩ := (fstTo_iff _ _ _).1 h
  have h1' : isDone (S k) = false := by simpa using h1
  obtain ⟨_, b1, c1, d1⟩ := firstFrom_spec S n 0
  obtain ⟨_, b2, c2, d2⟩ := firstFrom_spec (marked S k) n 0
  have e1 : firstFrom S 0 n ≤ k := by
    refine Nat.le_of_not_lt fun hlt => ?_
    have := c1 k (Nat.zero_le _) hlt
    rw [h1'] at this; cases this
  refine Nat.lt_of_le_of_lt e1 (Nat.lt_of_not_le fun hle => ?_)
  have x := d2 (by omega)
  by_cases e : firstFrom (marked S k) 0 n = k
  · rw [e] at x
    rw [marked, if_pos rfl, isDone_done] at x; cases x
  · rw [marked, if_neg e, h2 _ (by omega)] at x; cases x

theorem mono_law_f (S : Nat → ByteArray) (n k : Nat) (h : fstTo (!isDone (S k)) S k = false) : firstFrom (marked S k) 0 n = firstFrom S 0 n := by
  obtain ⟨_, b1, c1, d1⟩ := firstFrom_spec S n 0
  refine firstFrom_eq _ _ _ fun j hj hle => ?_
  by_cases e : j = k
  · subst e
    rw [marked, if_pos rfl, isDone_done]
    by_cases hd : isDone (S j) = true
    · exact hd.symm
    · exfalso
      have hd' : isDone (S j) = false := by simpa using hd
      have : fstTo (!isDone (S j)) S j = true := (fstTo_iff _ _ _).2 ⟨by simp [hd'], fun i hi => c1 i (Nat.zero_le _) (by omega)⟩
      rw [h] at this; cases this
  · rw [marked, if_neg e]

end Go.Proofs.Qxb6000432aMods
