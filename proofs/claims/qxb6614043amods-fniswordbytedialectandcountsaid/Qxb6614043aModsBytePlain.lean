/-
  DERIVED. THE PLAIN LAWS under the two laws on isWordByte: no Go in sight.
-/
namespace Go.Proofs.Qxb6614043aMods.Bytes

/-- 'isNameByte' -/
def nameB (c : Int) : Bool := decide (c = 95 ∨ (97 ≤ c ∧ c ≤ 122) ∨ (65 ≤ c ∧ c ≤ 90) ∨ (48 ≤ c ∧ c ≤ 57))
/-- 'isWordByte', d: the dialect has the dollar in names -/
def wordB (d : Bool) (c : Int) : Bool := nameB c || decide (128 ≤ c) || (decide (c = 36) && d)

/-- how many of the bytes below k are word bytes -/
def cnt (d : Bool) : Nat → Nat
  | 0 => 0
  | k + 1 => cnt d k + (if wordB d (k : Int) = true then 1 else 0)

theorem cnt_le (d : Bool) (k : Nat) : cnt d k ≤ k := by
  induction k with
  | zero => exact Nat.le_refl _
  | succ k ih => unfold cnt; split <;> omega
theorem cnt_t {d : Bool} {k : Nat} (h : wordB d (k : Int) = true) : cnt d (k + 1) = cnt d k + 1 := by rw [cnt, if_pos h]
theorem cnt_f {d : Bool} {k : Nat} (h : wordB d (k : Int) = false) : cnt d (k + 1) = cnt d k := by rw [cnt, if_neg (by simp [h])]; rfl
theorem cnt_on : cnt true 256 = 192 := by decide +kernel
theorem cnt_off : cnt false 256 = 191 := by decide +kernel

/-- how many of the bytes below k are word bytes and no name bytes -/
def ext (d : Bool) : Nat → Nat
  | 0 => 0
  | k + 1 => ext d k + (if wordB d (k : Int) = true ∧ nameB (k : Int) = false then 1 else 0)
theorem ext_le (d : Bool) (k : Nat) : ext d k ≤ k := by
  induction k with
  | zero => exact Nat.le_refl _
  | succ k ih => unfold ext; split <;> omega
theorem ext_t {d : Bool} {k : Nat} (h : wordB d (k : Int) = true) (h' : nameB (k : Int) = false) : ext d (k + 1) = ext d k + 1 := by rw [ext, if_pos ⟨h, h'⟩]
theorem ext_f {d : Bool} {k : Nat} (h : ¬ (wordB d (k : Int) = true ∧ nameB (k : Int) = false)) : ext d (k + 1) = ext d k := by rw [ext, if_neg h]; rfl
theorem ext_on : ext true 256 = 129 := by decide +kernel
theorem ext_off : ext false 256 = 128 := by decide +kernel

theorem word_dollar (d : Bool) : wordB d 36 = d := by cases d <;> decide
theorem word_other (d : Bool) (c : Int) (h : c ≠ 36) : wordB d c = wordB false c := by simp [wordB, h]
theorem word_of_name (d : Bool) (c : Int) (h : nameB c = true) : wordB d c = true := by simp [wordB, h]
theorem word_high (d : Bool) (c : Int) (h : 128 ≤ c) : wordB d c = true := by simp [wordB, h]
theorem word_low (d : Bool) (c : Int) (h : wordB d c = true) (hn : nameB c = false) (hc : c < 128) : c = 36 := by
  by_cases e : c = 36
  · exact e
  · rw [word_other d c e] at h
    simp [wordB, hn] at h
    omega
theorem name_swap_down (c : Int) (h : 97 ≤ c) (h' : c ≤ 122) : nameB c = true ∧ nameB (c - 32) = true := by
  simp [nameB]; omega
theorem name_swap_up (c : Int) (h : 65 ≤ c) (h' : c ≤ 90) : nameB c = true ∧ nameB (c + 32) = true := by
  simp [nameB]; omega

end Go.Proofs.Qxb6614043aMods.Bytes
