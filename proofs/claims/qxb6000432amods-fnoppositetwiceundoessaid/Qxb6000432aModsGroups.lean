/-
  DERIVED. THE GROUPS OF A TASK's STEPS: what the map that 'ranSteps' makes holds behind k steps.
-/
import Derived.Test.Qxb6000432aModsMaps
import Derived.Test.Qxb6000432aModsSteps
import Derived.Deep.AppendLies
namespace Go.Proofs.Qxb6000432aMods
open Go.RowKit

def isPend (s : ByteArray) : Bool := s.toList == [80, 69, 78, 68, 73, 78, 71]

/-- the steps below k that ran and serve d -/
def idx (St De : Nat → ByteArray) (d : ByteArray) : Nat → List Nat
  | 0 => []
  | k + 1 => if isPend (St k) = false ∧ De k = d then idx St De d k ++ [k] else idx St De d k
/-- how many groups there are behind k steps -/
def nf (St De : Nat → ByteArray) : Nat → Nat
  | 0 => 0
  | k + 1 => nf St De k + (if isPend (St k) = false ∧ idx St De (De k) k = [] then 1 else 0)
/-- a step's eight cells -/
def stepCells (St De : Nat → ByteArray) (i : Nat) : List Value :=
  [.int .i64 i, .string ByteArray.empty, .string (St i), .string (De i), .string ByteArray.empty, .string ByteArray.empty, .string ByteArray.empty, .bool false]
def grpCells (St De : Nat → ByteArray) (is : List Nat) : List Value := is.flatMap (stepCells St De)

theorem idx_hit {St De : Nat → ByteArray} {k : Nat} (h : isPend (St k) = false) : idx St De (De k) (k + 1) = idx St De (De k) k ++ [k] := by rw [idx, if_pos ⟨h, rfl⟩]
theorem idx_other {St De : Nat → ByteArray} {k : Nat} {d : ByteArray} (h : De k ≠ d) : idx St De d (k + 1) = idx St De d k := by rw [idx, if_neg (fun x => h x.2)]
theorem idx_pend {St De : Nat → ByteArray} {k : Nat} (d : ByteArray) (h : isPend (St k) = true) : idx St De d (k + 1) = idx St De d k := by rw [idx, if_neg (fun x => by rw [h] at x; cases x.1)]
theorem nf_pend {St De : Nat → ByteArray} {k : Nat} (h : isPend (St k) = true) : nf St De (k + 1) = nf St De k := by rw [nf, if_neg (fun x => by rw [h] at x; cases x.1)]; rfl
theorem idx_le (St De : Nat → ByteArray) (d : ByteArray) (k : Nat) : (idx St De d k).length ≤ k := by
  induction k with
  | zero => simp [idx]
  | succ k ih =>
    rw [idx]
    split
    · rw [List.length_append]; simp only [List.length_singleton]; omega
    · omega
theorem nf_le (St De : Nat → ByteArray) (k : Nat) : nf St De k ≤ k := by
  induction k with
  | zero => simp [nf]
  | succ k ih => rw [nf]; split <;> omega
theorem grpCells_snoc (St De : Nat → ByteArray) (is : List Nat) (k : Nat) : grpCells St De (is ++ [k]) = grpCells St De is ++ stepCells St De k := by simp [grpCells]
theorem grpCells_length (St De : Nat → ByteArray) (is : List Nat) : (grpCells St De is).length = is.length * 8 := by
  induction is with
  | nil => rfl
  | cons i r ih => simp [grpCells, stepCells] at ih ⊢; omega

structure Grp (w : World) (base : Nat) (L : List (ByteArray × Value)) (St De : Nat → ByteArray) (k : Nat) : Prop where
  here : ∀ s, (get L s = none ∧ idx St De s k = []) ∨ ∃ v, get L s = some v ∧ idx St De s k ≠ [] ∧ w.ownsRow base 44 8 v (idx St De s k).length (grpCells St De (idx St De s k))
  apart : ∀ s s' v v', get L s = some v → get L s' = some v' → s ≠ s' → v.ownBlock ≠ v'.ownBlock
  len : L.length = nf St De k

theorem Grp.zero (w : World) (base : Nat) (St De : Nat → ByteArray) : Grp w base [] St De 0 := ⟨fun _ => Or.inl ⟨rfl, rfl⟩, fun _ _ _ _ h => (by cases h), rfl⟩

theorem Grp.skip {w : World} {base : Nat} {L : List (ByteArray × Value)} {St De : Nat → ByteArray} {k : Nat} (h : Grp w base L St De k) (hp : isPend (St k) = true) : Grp w base L St De (k + 1) :=
  ⟨fun s => by rw [idx_pend s hp]; exact h.here s, h.apart, by rw [nf_pend hp]; exact h.len⟩

/-- an element of a group that is there owns a row -/
theorem Grp.some_row {w : World} {base : Nat} {L : List (ByteArray × Value)} {St De : Nat → ByteArray} {k : Nat} (h : Grp w base L St De k) {s : ByteArray} {v : Value} (hv : get L s = some v) :
    idx St De s k ≠ [] ∧ w.ownsRow base 44 8 v (idx St De s k).length (grpCells St De (idx St De s k)) ∧ ∃ g, v.ownBlock = some g ∧ base ≤ g ∧ g < w.heap.size := by
  rcases h.here s with ⟨h1, _⟩ | ⟨u, h1, h2, h3⟩
  · rw [h1] at hv; cases hv
  · rw [h1] at hv
    cases hv
    obtain ⟨g, cap, rfl, hb, hl⟩ := h3.form (List.length_pos_iff.2 h2)
    exact ⟨h2, h3, g, rfl, hb, hl⟩

theorem Grp.kept {w w' : World} {base : Nat} {L : List (ByteArray × Value)} {St De : Nat → ByteArray} {k : Nat} (h : Grp w base L St De k) {row : Option Nat} (hg : w.grownBy w' row)
    (hne : ∀ s v, get L s = some v → v.ownBlock ≠ row) : Grp w' base L St De k := by
  refine ⟨fun s => ?_, h.apart, h.len⟩
  rcases h.here s with h1 | ⟨u, h1, h2, h3⟩
  · exact Or.inl h1
  · exact Or.inr ⟨u, h1, h2, h3.kept hg (Or.inr (hne s u h1))⟩

theorem Grp.alloc {w : World} {base : Nat} {L : List (ByteArray × Value)} {St De : Nat → ByteArray} {k : Nat} (h : Grp w base L St De k) (o : Obj) : Grp (w.alloc o) base L St De k :=
  h.kept (World.grownBy_alloc w o none) fun s v hv => by
    obtain ⟨_, _, g, hg, _⟩ := h.some_row hv
    rw [hg]; simp

/-- what stands at a key, nil where nothing does -/
theorem Grp.at {w : World} {base : Nat} {L : List (ByteArray × Value)} {St De : Nat → ByteArray} {k : Nat} (h : Grp w base L St De k) (s : ByteArray) :
    w.ownsRow base 44 8 ((get L s).getD (.slice none 0 0)) (idx St De s k).length (grpCells St De (idx St De s k)) := by
  rcases h.here s with ⟨h1, h2⟩ | ⟨u, h1, h2, h3⟩
  · rw [h1, h2]; exact World.ownsRow_nil _ _ _ _
  · rw [h1]; exact h3

theorem Grp.step {w w1 w2 : World} {base B : Nat} {L : List (ByteArray × Value)} {St De : Nat → ByteArray} {k : Nat} (h : Grp w base L St De k) (hp : isPend (St k) = false) (hB : B < base) {v' : Value}
    (hg : w.grownBy w1 ((get L (De k)).getD (.slice none 0 0)).ownBlock)
    (hown : w1.ownsRow base 44 8 v' ((idx St De (De k) k).length + 1) (grpCells St De (idx St De (De k) k) ++ stepCells St De k))
    (hloc : v'.ownBlock = ((get L (De k)).getD (.slice none 0 0)).ownBlock ∨ ∃ g, v'.ownBlock = some g ∧ w.heap.size ≤ g)
    (hg2 : w1.grownBy w2 (some B)) : Grp w2 base (put L (De k) v') St De (k + 1) := by
  have hv' : ∃ g, v'.ownBlock = some g ∧ base ≤ g := by
    obtain ⟨g, cap, rfl, hb, _⟩ := hown.form (by omega)
    exact ⟨g, rfl, hb⟩
  -- an old one at another key lies apart from the new
  have far : ∀ s v, get L s = some v → De k ≠ s → v.ownBlock ≠ v'.ownBlock := by
    intro s v hv hne
    obtain ⟨_, _, g, hgv, _, hlt⟩ := h.some_row hv
    rcases hloc with e | ⟨g', e, hge⟩
    · rw [e]
      cases hk : get L (De k) with
      | none => rw [hgv]; simp [Value.ownBlock]
      | some u => exact h.apart _ _ _ _ hv hk (Ne.symm hne)
    · rw [e, hgv]
      intro x
      injection x with x
      omega
  have far1 : ∀ s v, get L s = some v → De k ≠ s → v.ownBlock ≠ ((get L (De k)).getD (.slice none 0 0)).ownBlock := by
    intro s v hv hne
    obtain ⟨_, _, g, hgv, _, hlt⟩ := h.some_row hv
    cases hk : get L (De k) with
    | none => rw [hgv]; simp [Value.ownBlock]
    | some u => exact h.apart _ _ _ _ hv hk (Ne.symm hne)
  have notB : ∀ {u : Value} {g : Nat}, u.ownBlock = some g → base ≤ g → u.ownBlock ≠ some B := fun {u g} e hge x => by
    rw [e] at x
    injection x with x
    omega
  refine ⟨fun s => ?_, fun s s' v u hv hu hne => ?_, ?_⟩
  · rw [get_put]
    by_cases e : De k = s
    · subst e
      right
      refine ⟨v', by simp, by rw [idx_hit hp]; simp, ?_⟩
      rw [idx_hit hp, grpCells_snoc]
      obtain ⟨g, hg', hge⟩ := hv'
      simpa using hown.kept hg2 (Or.inr (notB hg' hge))
    · rw [if_neg e, idx_other e]
      rcases h.here s with h1 | ⟨u, h1, h2, h3⟩
      · exact Or.inl h1
      · obtain ⟨_, _, g, hgv, hge, _⟩ := h.some_row h1
        exact Or.inr ⟨u, h1, h2, (h3.kept hg (Or.inr (far1 s u h1 e))).kept hg2 (Or.inr (notB hgv hge))⟩
  · rw [get_put] at hv hu
    by_cases e : De k = s
    · rw [if_pos e] at hv
      have e' : De k ≠ s' := fun x => hne (e.symm.trans x)
      rw [if_neg e'] at hu
      cases hv
      exact (far s' u hu e').symm
    · rw [if_neg e] at hv
      by_cases e' : De k = s'
      · rw [if_pos e'] at hu
        cases hu
        exact far s v hv e
      · rw [if_neg e'] at hu
        exact h.apart _ _ _ _ hv hu hne
  · rw [length_put, nf, h.len]
    rcases h.here (De k) with ⟨h1, h2⟩ | ⟨u, h1, h2, _⟩
    · simp [h1, h2, hp]
    · simp [h1, h2]

end Go.Proofs.Qxb6000432aMods
