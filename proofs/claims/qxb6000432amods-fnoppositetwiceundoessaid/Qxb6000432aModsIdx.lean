/-
  DERIVED. THE PLAIN LAWS on the groups: who is in a group, how many there are.
-/
import Derived.Test.Qxb6000432aModsSound
namespace Go.Proofs.Qxb6000432aMods
open Go.RowKit

variable {St De : Nat → ByteArray}

theorem mem_idx (d : ByteArray) (k x : Nat) : x ∈ idx St De d k ↔ x < k ∧ isPend (St x) = false ∧ De x = d := by
  induction k with
  | zero => simp [idx]
  | succ k ih =>
    rw [idx]
    by_cases h : isPend (St k) = false ∧ De k = d
    · rw [if_pos h, List.mem_append, ih]
      constructor
      · rintro (⟨h1, h2⟩ | h1)
        · exact ⟨by omega, h2⟩
        · simp at h1; subst h1; exact ⟨by omega, h⟩
      · rintro ⟨h1, h2⟩
        by_cases e : x = k
        · subst e; exact Or.inr (by simp)
        · exact Or.inl ⟨by omega, h2⟩
    · rw [if_neg h, ih]
      constructor
      · rintro ⟨h1, h2⟩; exact ⟨by omega, h2⟩
      · rintro ⟨h1, h2⟩
        by_cases e : x = k
        · subst e; exact absurd h2 h
        · exact ⟨by omega, h2⟩

theorem sorted_idx (d : ByteArray) (k : Nat) : (idx St De d k).Pairwise (· < ·) := by
  induction k with
  | zero => simp [idx]
  | succ k ih =>
    rw [idx]
    split
    · rw [List.pairwise_append]
      refine ⟨ih, by simp, fun a ha b hb => ?_⟩
      simp at hb
      subst hb
      exact ((mem_idx d b a).1 ha).1
    · exact ih

/-- the group as an index function -/
def nth (St De : Nat → ByteArray) (d : ByteArray) (k j : Nat) : Nat := (idx St De d k).getD j 0
theorem nth_at {d : ByteArray} {k j : Nat} (h : j < (idx St De d k).length) : (idx St De d k)[j]? = some (nth St De d k j) := by
  unfold nth
  rw [List.getD_eq_getElem?_getD, List.getElem?_eq_getElem h]; rfl
theorem nth_mem {d : ByteArray} {k j : Nat} (h : j < (idx St De d k).length) : nth St De d k j < k ∧ isPend (St (nth St De d k j)) = false ∧ De (nth St De d k j) = d :=
  (mem_idx d k _).1 (List.mem_of_getElem? (nth_at h))
theorem nth_inc {d : ByteArray} {k j : Nat} (h : j + 1 < (idx St De d k).length) : nth St De d k j < nth St De d k (j + 1) := by
  have hs := sorted_idx (St := St) (De := De) d k
  rw [List.pairwise_iff_getElem] at hs
  have := hs j (j + 1) (by omega) h (by omega)
  have e1 := nth_at (St := St) (De := De) (d := d) (k := k) (j := j) (by omega)
  have e2 := nth_at (St := St) (De := De) (d := d) (k := k) (j := j + 1) h
  rw [List.getElem?_eq_getElem (by omega)] at e1 e2
  injection e1 with e1
  injection e2 with e2
  rw [e1, e2] at this
  exact this

/-- the later steps come behind -/
theorem idx_prefix (d : ByteArray) (i k : Nat) (h : i ≤ k) : ∃ r, idx St De d k = idx St De d i ++ r ∧ ∀ x ∈ r, i ≤ x := by
  induction k with
  | zero =>
    obtain rfl : i = 0 := by omega
    exact ⟨[], by simp, by simp⟩
  | succ k ih =>
    by_cases e : i = k + 1
    · subst e; exact ⟨[], by simp, by simp⟩
    · obtain ⟨r, hr, hx⟩ := ih (by omega)
      rw [idx]
      split
      · refine ⟨r ++ [k], by rw [hr, List.append_assoc], fun x hm => ?_⟩
        rcases List.mem_append.1 hm with hm | hm
        · exact hx x hm
        · simp at hm; omega
      · exact ⟨r, hr, hx⟩

theorem idx_ne {n i : Nat} (hi : i < n) (hp : isPend (St i) = false) : idx St De (De i) n ≠ [] := by
  intro h
  have := (mem_idx (St := St) (De := De) (De i) n i).2 ⟨hi, hp, rfl⟩
  rw [h] at this
  simp at this

/-- the head of a group: at most i; i itself just where nothing of the group came before -/
theorem head_le {n i : Nat} (hi : i < n) (hp : isPend (St i) = false) : nth St De (De i) n 0 ≤ i := by
  obtain ⟨r, hr, hx⟩ := idx_prefix (St := St) (De := De) (De i) (i + 1) n hi
  rw [idx_hit hp] at hr
  unfold nth
  rw [hr]
  cases h : idx St De (De i) i with
  | nil => simp
  | cons y t =>
    have : y ∈ idx St De (De i) i := by rw [h]; simp
    have := ((mem_idx _ _ _).1 this).1
    simp; omega
theorem head_eq {n i : Nat} (hi : i < n) (hp : isPend (St i) = false) : nth St De (De i) n 0 = i ↔ idx St De (De i) i = [] := by
  obtain ⟨r, hr, hx⟩ := idx_prefix (St := St) (De := De) (De i) (i + 1) n hi
  rw [idx_hit hp] at hr
  unfold nth
  rw [hr]
  cases h : idx St De (De i) i with
  | nil => simp
  | cons y t =>
    have : y ∈ idx St De (De i) i := by rw [h]; simp
    have := ((mem_idx _ _ _).1 this).1
    simp; omega

/-! ### how many -/
/-- the steps below k that ran -/
def np (St : Nat → ByteArray) : Nat → Nat
  | 0 => 0
  | k + 1 => np St k + (if isPend (St k) = false then 1 else 0)
/-- the sizes (behind k steps) of the groups whose heads lie below m -/
def sumF (St De : Nat → ByteArray) (k : Nat) : Nat → Nat
  | 0 => 0
  | m + 1 => sumF St De k m + (if isPend (St m) = false ∧ idx St De (De m) m = [] then (idx St De (De m) k).length else 0)
/-- the heads below m of the group d -/
def heads (St De : Nat → ByteArray) (d : ByteArray) : Nat → Nat
  | 0 => 0
  | m + 1 => heads St De d m + (if isPend (St m) = false ∧ idx St De (De m) m = [] ∧ De m = d then 1 else 0)

theorem np_le (k : Nat) : np St k ≤ k := by
  induction k with
  | zero => exact Nat.le_refl _
  | succ k ih => rw [np]; split <;> omega
theorem np_t {k : Nat} (h : isPend (St k) = true) : np St (k + 1) = np St k := by rw [np, if_neg (by rw [h]; simp)]; rfl
theorem np_f {k : Nat} (h : isPend (St k) = false) : np St (k + 1) = np St k + 1 := by rw [np, if_pos h]
theorem nf_hit {k : Nat} (h : isPend (St k) = false) (h2 : idx St De (De k) k = []) : nf St De (k + 1) = nf St De k + 1 := by rw [nf, if_pos ⟨h, h2⟩]
theorem nf_miss {k : Nat} (h2 : idx St De (De k) k ≠ []) : nf St De (k + 1) = nf St De k := by rw [nf, if_neg (fun h => h2 h.2)]; rfl
theorem sumF_hit {n k : Nat} (h : isPend (St k) = false) (h2 : idx St De (De k) k = []) : sumF St De n (k + 1) = sumF St De n k + (idx St De (De k) n).length := by rw [sumF, if_pos ⟨h, h2⟩]
theorem sumF_miss {n k : Nat} (h2 : idx St De (De k) k ≠ []) : sumF St De n (k + 1) = sumF St De n k := by rw [sumF, if_neg (fun h => h2 h.2)]; rfl
theorem sumF_pend {n k : Nat} (h : isPend (St k) = true) : sumF St De n (k + 1) = sumF St De n k := by rw [sumF, if_neg (fun x => by rw [h] at x; cases x.1)]; rfl
theorem sumF_le {n : Nat} (hn : n ≤ 65537) (m : Nat) : sumF St De n m ≤ 65537 * m := by
  induction m with
  | zero => exact Nat.le_refl _
  | succ m ih =>
    rw [sumF]
    have := idx_le St De (De m) n
    split <;> omega

theorem heads_eq (d : ByteArray) (m : Nat) : heads St De d m = if idx St De d m = [] then 0 else 1 := by
  induction m with
  | zero => simp [heads, idx]
  | succ m ih =>
    rw [heads, ih, idx]
    by_cases h : isPend (St m) = false ∧ De m = d
    · obtain ⟨h1, rfl⟩ := h
      by_cases h2 : idx St De (De m) m = []
      · simp [h1, h2]
      · simp [h1, h2]
    · rw [if_neg h, if_neg (fun x : isPend (St m) = false ∧ idx St De (De m) m = [] ∧ De m = d => h ⟨x.1, x.2.2⟩)]
      rfl

theorem sumF_step (k : Nat) (hp : isPend (St k) = false) (m : Nat) : sumF St De (k + 1) m = sumF St De k m + heads St De (De k) m := by
  induction m with
  | zero => rfl
  | succ m ih =>
    rw [sumF, sumF, heads, ih]
    by_cases h : isPend (St m) = false ∧ idx St De (De m) m = []
    · rw [if_pos h, if_pos h]
      by_cases e : De m = De k
      · rw [if_pos ⟨h.1, h.2, e⟩, e, idx_hit hp, List.length_append]
        simp only [List.length_singleton]
        omega
      · rw [if_neg (fun x => e x.2.2), idx_other (fun x => e x.symm)]
        omega
    · rw [if_neg h, if_neg h, if_neg (fun x => h ⟨x.1, x.2.1⟩)]
      omega
theorem sumF_same (k : Nat) (hp : isPend (St k) = true) (m : Nat) : sumF St De (k + 1) m = sumF St De k m := by
  induction m with
  | zero => rfl
  | succ m ih => rw [sumF, sumF, ih, idx_pend _ hp]

theorem sumF_all (k : Nat) : sumF St De k k = np St k := by
  induction k with
  | zero => rfl
  | succ k ih =>
    cases hp : isPend (St k) with
    | true => rw [sumF_pend hp, sumF_same k hp, ih, np_t hp]
    | false =>
      by_cases h2 : idx St De (De k) k = []
      · rw [sumF_hit hp h2, sumF_step k hp, heads_eq, if_pos h2, ih, np_f hp, idx_hit hp, h2]
        rfl
      · rw [sumF_miss h2, sumF_step k hp, heads_eq, if_neg h2, ih, np_f hp]

/-- the cells of a group, element by element -/
theorem grpCells_at (is : List Nat) : ∀ {j i : Nat} (t : Nat), is[j]? = some i → t < 8 → (grpCells St De is)[j * 8 + t]? = (stepCells St De i)[t]? := by
  induction is with
  | nil => intro j i t h; simp at h
  | cons a r ih =>
    intro j i t h ht
    have e : grpCells St De (a :: r) = stepCells St De a ++ grpCells St De r := by simp [grpCells]
    cases j with
    | zero =>
      simp at h
      subst h
      rw [e, List.getElem?_append_left (by simp [stepCells]; omega)]
      simp
    | succ j =>
      simp at h
      rw [e, List.getElem?_append_right (by simp [stepCells]; omega)]
      rw [show (j + 1) * 8 + t - (stepCells St De a).length = j * 8 + t by simp [stepCells]; omega]
      exact ih t h ht

/-- a step of a group, in memory -/
theorem stepAt_own {w : World} {base g cap m : Nat} {is : List Nat} (h : w.ownsRow base 44 8 (.slice (some ⟨g, 0, none⟩) m cap) m (grpCells St De is)) {j i : Nat} (hj : is[j]? = some i) (hm : j < m) :
    StepAt w g (j * 8) i (St i) (De i) := by
  have c : ∀ t, t < 8 → w.cell? ⟨g, j * 8 + t, none⟩ = (stepCells St De i)[t]? := fun t ht => by rw [h.cellAt (j * 8 + t) (by omega), grpCells_at is t hj ht]
  exact ⟨c 0 (by omega), c 1 (by omega), c 2 (by omega), c 3 (by omega), c 4 (by omega), c 5 (by omega), c 6 (by omega), c 7 (by omega)⟩

end Go.Proofs.Qxb6000432aMods
