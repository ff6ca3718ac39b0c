/-
  DERIVED. FnRanStepsAppendOne: two more callees, and the plain laws on one step more.
-/
import Derived.Test.Qxb6000432aModsPartWalk
namespace Go.Proofs.Qxb6000432aMods
open Go.RowKit

theorem bytes_ne {a b : ByteArray} (h : a ≠ b) : (a.toList == b.toList) = false := by
  rw [Bool.eq_false_iff]
  intro e
  have e' : a.toList = b.toList := by simpa using e
  rw [ByteArray.toList_eq, ByteArray.toList_eq] at e'
  exact h (WideShapes.bytes_inj e')
theorem bytes_eq {a b : ByteArray} (h : a = b) : (a.toList == b.toList) = true := by rw [h]; simp

set_option maxHeartbeats 400000 in
theorem strBytes_any (s : ByteArray) (w : World) (hs : s.size ≤ maxLen) :
    Calls Trym.prog 22 #[.string s] w fun e w' => (∃ r : Int, 0 ≤ r ∧ r ≤ 1048577 ∧ e = .returned (.int .i64 r)) ∧ w' = w := by
  unfold maxLen at hs
  by_cases h : 1048576 < s.size
  · go_enter Trym.func22, Trym.ntmps22
    go_wp2
    go_ret
    exact ⟨⟨1048577, by omega, by omega, rfl⟩, rfl⟩
  · go_enter Trym.func22, Trym.ntmps22
    go_wp2
    go_ret
    exact ⟨⟨s.size, by omega, by omega, rfl⟩, rfl⟩

/-- two slices of steps hold the same m steps -/
def SameSteps (w : World) (a b : Option Addr) (m : Nat) : Prop :=
  0 < m → ∃ x y, a = some ⟨x, 0, none⟩ ∧ b = some ⟨y, 0, none⟩ ∧ ∀ j, j < m → ∃ i s d, StepAt w x (j * 8) i s d ∧ StepAt w y (j * 8) i s d

set_option maxHeartbeats 1000000 in
theorem groupEq_any (a b : Option Addr) (m ca cb : Nat) (w : World) (hm : m ≤ 65537) (h : SameSteps w a b m) :
    Calls Trym.prog 23 #[.slice a m ca, .slice b m cb] w fun e w' => e = .returned (.bool true) ∧ ∃ c, w' = w.drewN c := by
  have H := hide h
  clear h
  go_enter Trym.func23, Trym.ntmps23
  go_wp2
  go_loopg [5] m (fun q jv wx => ∃ j : Nat, q + j = m ∧ jv = .int .i64 j ∧ ∃ c, wx = w.drewN c)
  case atStart => exact ⟨0, rfl, rfl, 0, rfl⟩
  case round =>
    obtain ⟨j, hj, rfl, c, rfl⟩ := hrel
    by_cases hlt : j < m
    · obtain ⟨x, y, rfl, rfl, hat⟩ := H.out (by omega)
      obtain ⟨i, s, d, ⟨c0, c1, c2, c3, c4, c5, c6, c7⟩, ⟨e0, e1, e2, e3, e4, e5, e6, e7⟩⟩ := hat j hlt
      have j0 : (0 : Int) ≤ (j : Int) := by omega
      have j1 : (j : Int) < (m : Int) := by omega
      have HJ := hide hj
      clear hj hat
      go_wp2
      go_quiet (fail)
      go_wp2
      go_roundg (gk - 1)
      case rel => exact ⟨j + 1, by have := HJ.out; omega, by go_num, c + nq, rfl⟩
      case measure => have := HJ.out; omega
    · go_wp2
      go_ret
      exact ⟨rfl, c, rfl⟩

/-! ### one step more -/
theorem idx_congr {S De S' De' : Nat → ByteArray} (d : ByteArray) (k : Nat) (h : ∀ i, i < k → S' i = S i ∧ De' i = De i) : idx S' De' d k = idx S De d k := by
  induction k with
  | zero => rfl
  | succ k ih => rw [idx, idx, ih fun i hi => h i (by omega), (h k (by omega)).1, (h k (by omega)).2]
theorem nf_congr {S De S' De' : Nat → ByteArray} (k : Nat) (h : ∀ i, i < k → S' i = S i ∧ De' i = De i) : nf S' De' k = nf S De k := by
  induction k with
  | zero => rfl
  | succ k ih => rw [nf, nf, ih fun i hi => h i (by omega), (h k (by omega)).1, (h k (by omega)).2, idx_congr _ k fun i hi => h i (by omega)]

/-- the list with x at n -/
def upd (S : Nat → ByteArray) (n : Nat) (x : ByteArray) (i : Nat) : ByteArray := if i = n then x else S i
theorem upd_n (S : Nat → ByteArray) (n : Nat) (x : ByteArray) : upd S n x n = x := if_pos rfl
theorem upd_lt (S : Nat → ByteArray) {n i : Nat} (x : ByteArray) (h : i < n) : upd S n x i = S i := if_neg (by omega)

variable {S De : Nat → ByteArray} {n : Nat} {xs xd : ByteArray}

theorem upd_both {i : Nat} (h : i < n) : upd S n xs i = S i ∧ upd De n xd i = De i := ⟨upd_lt S xs h, upd_lt De xd h⟩
theorem idx_more_pend (d : ByteArray) (h : isPend xs = true) : idx (upd S n xs) (upd De n xd) d (n + 1) = idx S De d n := by
  rw [idx_pend d (by rw [upd_n]; exact h)]
  exact idx_congr d n fun i hi => upd_both hi
theorem idx_more_other {d : ByteArray} (h : xd ≠ d) : idx (upd S n xs) (upd De n xd) d (n + 1) = idx S De d n := by
  rw [idx_other (by rw [upd_n]; exact h)]
  exact idx_congr d n fun i hi => upd_both hi
theorem idx_more (h : isPend xs = false) : idx (upd S n xs) (upd De n xd) xd (n + 1) = idx S De xd n ++ [n] := by
  have := idx_hit (St := upd S n xs) (De := upd De n xd) (k := n) (by rw [upd_n]; exact h)
  rw [upd_n] at this
  rw [this, idx_congr _ n fun i hi => upd_both hi]
theorem nf_more_pend (h : isPend xs = true) : nf (upd S n xs) (upd De n xd) (n + 1) = nf S De n := by
  rw [nf_pend (by rw [upd_n]; exact h)]
  exact nf_congr n fun i hi => upd_both hi
theorem nf_more_old (h2 : idx S De xd n ≠ []) : nf (upd S n xs) (upd De n xd) (n + 1) = nf S De n := by
  rw [nf_miss (by rw [upd_n, idx_congr _ n fun i hi => upd_both hi]; exact h2)]
  exact nf_congr n fun i hi => upd_both hi
theorem nf_more_new (h : isPend xs = false) (h2 : idx S De xd n = []) : nf (upd S n xs) (upd De n xd) (n + 1) = nf S De n + 1 := by
  rw [nf_hit (by rw [upd_n]; exact h) (by rw [upd_n, idx_congr _ n fun i hi => upd_both hi]; exact h2)]
  rw [nf_congr n fun i hi => upd_both hi]

/-! ### a whole step stored -/
/-- eight cells of block g, from o on -/
def set8 (w : World) (g o : Nat) (i : Int) (s d : ByteArray) : World :=
  ((((((((w.setCell ⟨g, o, none⟩ (.int .i64 i)).setCell ⟨g, o + 1, none⟩ (.string ByteArray.empty)).setCell ⟨g, o + 2, none⟩ (.string s)).setCell ⟨g, o + 3, none⟩ (.string d)).setCell ⟨g, o + 4, none⟩ (.string ByteArray.empty)).setCell
    ⟨g, o + 5, none⟩ (.string ByteArray.empty)).setCell ⟨g, o + 6, none⟩ (.string ByteArray.empty)).setCell ⟨g, o + 7, none⟩ (.bool false))

theorem set8_block (w : World) (g o : Nat) (i : Int) (s d : ByteArray) (b : Nat) (h : b ≠ g) : (set8 w g o i s d).heap[b]? = w.heap[b]? := by
  unfold set8
  simp only [Below.heap_setCell _ _ _ b (show b ≠ (⟨g, _, none⟩ : Addr).block from h)]
theorem set8_size (w : World) (g o : Nat) (i : Int) (s d : ByteArray) : (set8 w g o i s d).heap.size = w.heap.size := by
  simp [set8, World.setCell]
theorem set8_below {B : Nat} {a w : World} (h : Below B a w) {g : Nat} (hg : B ≤ g) (o : Nat) (i : Int) (s d : ByteArray) : Below B a (set8 w g o i s d) := by
  unfold set8
  exact (((((((h.setCell hg _).setCell hg _).setCell hg _).setCell hg _).setCell hg _).setCell hg _).setCell hg _).setCell hg _

theorem set8_row {w : World} {g N k : Nat} {S De : Nat → ByteArray} (h : w.rowIs g 44 (N * 8) (stepRowTo k S De)) : (set8 w g (k * 8) k (S k) (De k)).rowIs g 44 (N * 8) (stepRowTo (k + 1) S De) := by
  unfold set8
  refine ((((((((h.set (k * 8) _).set (k * 8 + 1) _).set (k * 8 + 2) _).set (k * 8 + 3) _).set (k * 8 + 4) _).set (k * 8 + 5) _).set (k * 8 + 6) _).set (k * 8 + 7) _).congr fun c _ => ?_
  obtain ⟨i, j, hj, rfl⟩ : ∃ i j, j < 8 ∧ c = i * 8 + j := ⟨c / 8, c % 8, Nat.mod_lt _ (by decide), by omega⟩
  have e1 : (i * 8 + j) / 8 = i := by omega
  by_cases hi : i = k
  · subst hi
    have h1 : stepRowTo (i + 1) S De (i * 8 + j) = stepCell i (S i) (De i) j := by rw [stepRowTo, e1, if_pos (by omega), stepRow_at _ _ _ _ hj]
    rw [h1]
    match j, hj with
    | 0, _ => simp [stepCell]
    | 1, _ => simp [stepCell]
    | 2, _ => simp [stepCell]
    | 3, _ => simp [stepCell]
    | 4, _ => simp [stepCell]
    | 5, _ => simp [stepCell]
    | 6, _ => simp [stepCell]
    | 7, _ => simp [stepCell]
  · rw [if_neg (by omega), if_neg (by omega), if_neg (by omega), if_neg (by omega), if_neg (by omega), if_neg (by omega), if_neg (by omega), if_neg (by omega)]
    unfold stepRowTo
    rw [e1]
    by_cases h : i < k
    · rw [if_pos h, if_pos (by omega)]
    · rw [if_neg h, if_neg (by omega)]

theorem stepRowTo_upd (c : Nat) : stepRowTo n (upd S n xs) (upd De n xd) c = stepRowTo n S De c := by
  unfold stepRowTo
  by_cases h : c / 8 < n
  · rw [if_pos h, if_pos h, stepRow, stepRow, upd_lt S xs h, upd_lt De xd h]
  · rw [if_neg h, if_neg h]

/-- the row of n steps with one more laid at its end -/
theorem set8_last {w : World} {g N : Nat} (hN : N = n + 1) (h : w.rowIs g 44 (N * 8) (stepRowTo n S De)) : (set8 w g (n * 8) n xs xd).rowIs g 44 (N * 8) (stepRow (upd S n xs) (upd De n xd)) := by
  have h' : w.rowIs g 44 (N * 8) (stepRowTo n (upd S n xs) (upd De n xd)) := h.congr fun c _ => (stepRowTo_upd c).symm
  have h2 := set8_row h'
  rw [upd_n, upd_n] at h2
  subst hN
  exact h2.congr fun c hc => stepRowTo_all _ _ _ _ hc

theorem name_world {P : Program} {f : FuncId} {args : Array Value} {w : World} {Q : Ending → World → Prop} (h : ∀ W, W = w → Calls P f args W Q) : Calls P f args w Q := h w rfl

end Go.Proofs.Qxb6000432aMods
