/-
  DERIVED. 'buildSteps' and 'firstNotDone': a row of steps that the call makes.
-/
import Derived.Test.Qxb6000432aModsCommon
namespace Go.Proofs.Qxb6000432aMods
open Go.RowKit

/-- cell j of a step: its order, its state, its deployed id; all else is zero. -/
def stepCell (o : Int) (s d : ByteArray) (j : Nat) : Value :=
  if j = 0 then .int .i64 o else if j = 2 then .string s else if j = 3 then .string d else if j = 7 then .bool false else .string ByteArray.empty

def zeroStep : Array Value := #[.int .i64 0, .string ByteArray.empty, .string ByteArray.empty, .string ByteArray.empty, .string ByteArray.empty, .string ByteArray.empty, .string ByteArray.empty, .bool false]

theorem zeroStep_at (j : Nat) (h : j < 8) : zeroStep[j]! = stepCell 0 ByteArray.empty ByteArray.empty j := by
  match j, h with
  | 0, _ => rfl
  | 1, _ => rfl
  | 2, _ => rfl
  | 3, _ => rfl
  | 4, _ => rfl
  | 5, _ => rfl
  | 6, _ => rfl
  | 7, _ => rfl

theorem info44 : (Trym.prog.info? 44).map (fun i => (i.zero, i.size, i.bytes)) = some (some (.agg zeroStep), 8, 112) := by kernel_rfl

/-- 'make([]TaskStep, n)' -/
theorem run_make_steps (n : Nat) (hn : n ≤ 131072) (w : World) :
    (Instr.makeSlice 27 (.int .i64 (n : Int)) (.int .i64 (n : Int))).run Trym.prog w = .ok (.slice (some ⟨w.heap.size, 0, none⟩) n n) (w.alloc (.cells (madeCells zeroStep (n * 8)) 44)) := by
  obtain ⟨i, hi, hz⟩ := Option.map_eq_some_iff.1 info44
  simp only [Prod.mk.injEq] at hz
  obtain ⟨hz, hs, hb⟩ := hz
  have hr := run_make (P := Trym.prog) w 27 44 i (.agg zeroStep) Trym.underlying27 hi hz .i64 .i64 n n (by omega) (Int.le_refl _) (by rw [hb]; omega) (by omega)
  simp only [Int.toNat_natCast, hs] at hr
  exact hr

/-- the cells of a row of n steps -/
def stepRow (St De : Nat → ByteArray) (c : Nat) : Value := stepCell ((c / 8 : Nat) : Int) (St (c / 8)) (De (c / 8)) (c % 8)
/-- the row in the making: the first k steps are laid -/
def stepRowTo (k : Nat) (St De : Nat → ByteArray) (c : Nat) : Value := if c / 8 < k then stepRow St De c else stepCell 0 ByteArray.empty ByteArray.empty (c % 8)

theorem rowIs_made_steps (w : World) (n : Nat) (St De : Nat → ByteArray) : (w.alloc (.cells (madeCells zeroStep (n * 8)) 44)).rowIs w.heap.size 44 (n * 8) (stepRowTo 0 St De) := by
  refine ⟨_, Deep.blk_alloc_new _ _, size_madeCells _ _, fun i hi => ?_⟩
  have h8 : i % zeroStep.size < 8 := Nat.mod_lt _ (by decide)
  have := zeroStep_at _ h8
  simp [madeCells, hi, stepRowTo]
  rw [this]; rfl

theorem stepRow_at (St De : Nat → ByteArray) (i j : Nat) (hj : j < 8) : stepRow St De (i * 8 + j) = stepCell i (St i) (De i) j := by
  unfold stepRow
  rw [show (i * 8 + j) / 8 = i by omega, show (i * 8 + j) % 8 = j by omega]

/-- what a round's stores do to the row -/
theorem stepRowTo_succ (k : Nat) (St De : Nat → ByteArray) (d : ByteArray) (hd : De k = d) (c : Nat) :
    (if c = k * 8 + 3 then .string d else if c = k * 8 + 2 then .string (St k) else if c = k * 8 then .int .i64 (k : Int) else stepRowTo k St De c) = stepRowTo (k + 1) St De c := by
  obtain ⟨i, j, hj, rfl⟩ : ∃ i j, j < 8 ∧ c = i * 8 + j := ⟨c / 8, c % 8, Nat.mod_lt _ (by decide), by omega⟩
  have e1 : (i * 8 + j) / 8 = i := by omega
  have e2 : (i * 8 + j) % 8 = j := by omega
  by_cases hi : i = k
  · subst hi
    have h1 : stepRowTo (i + 1) St De (i * 8 + j) = stepCell i (St i) (De i) j := by rw [stepRowTo, e1, if_pos (by omega), stepRow_at _ _ _ _ hj]
    have h2 : stepRowTo i St De (i * 8 + j) = stepCell 0 ByteArray.empty ByteArray.empty j := by rw [stepRowTo, e1, if_neg (by omega), e2]
    rw [h1, h2, hd]
    simp only [stepCell]
    match j, hj with
    | 0, _ => simp
    | 1, _ => simp
    | 2, _ => simp
    | 3, _ => simp
    | 4, _ => simp
    | 5, _ => simp
    | 6, _ => simp
    | 7, _ => simp
  · rw [if_neg (by omega), if_neg (by omega), if_neg (by omega)]
    unfold stepRowTo
    rw [e1]
    by_cases h : i < k
    · rw [if_pos h, if_pos (by omega)]
    · rw [if_neg h, if_neg (by omega)]

theorem stepRowTo_all (n : Nat) (St De : Nat → ByteArray) (c : Nat) (h : c < n * 8) : stepRowTo n St De c = stepRow St De c := by
  unfold stepRowTo; rw [if_pos (by omega)]

theorem stepRowTo_last (k : Nat) (St De : Nat → ByteArray) (hd : De k = ByteArray.empty) (c : Nat) :
    (if c = k * 8 + 2 then .string (St k) else if c = k * 8 then .int .i64 (k : Int) else stepRowTo k St De c) = stepRowTo (k + 1) St De c := by
  rw [← stepRowTo_succ k St De _ hd c]
  by_cases h : c = k * 8 + 3
  · subst h
    rw [if_pos rfl, if_neg (by omega), if_neg (by omega)]
    unfold stepRowTo
    rw [show (k * 8 + 3) / 8 = k by omega, if_neg (by omega), show (k * 8 + 3) % 8 = 3 by omega]
    rfl
  · rw [if_neg h]

set_option maxHeartbeats 400000 in
theorem build_any (a a' : Option Addr) (n m cap cap' : Nat) (S S' : Nat → ByteArray) (w : World) (hS : Strs w a n S) (hS' : Strs w a' m S') (hn : n ≤ 65536) (hm : m ≤ 65536) (De : Nat → ByteArray)
    (hDe : De = fun i => if i < m then S' i else ByteArray.empty) :
    Calls Trym.prog 14 #[.slice a n cap, .slice a' m cap'] w fun e w' => e = .returned (.slice (some ⟨w.heap.size, 0, none⟩) n n) ∧ Below w.heap.size w w' ∧ w'.rowIs w.heap.size 44 (n * 8) (stepRow S De) := by
  have hmk := run_make_steps n (by omega)
  have HS := hide hS
  have HS' := hide hS'
  have HD := hide hDe
  clear hS hS' hDe
  go_enter Trym.func14, Trym.ntmps14
  go_wp2
  go_loopg [6] n (fun q i wx => ∃ k : Nat, q + k = n ∧ i = .int .i64 k ∧ Below w.heap.size w wx ∧ wx.rowIs w.heap.size 44 (n * 8) (stepRowTo k S De))
  case atStart => exact ⟨0, rfl, rfl, (Below.refl _ _).alloc (Nat.le_refl _) _, rowIs_made_steps _ _ _ _⟩
  case round =>
    obtain ⟨k, hk, rfl, hbel, hrow⟩ := hrel
    by_cases hlt : k < n
    · obtain ⟨b, off, rfl, hb, hc⟩ := HS.out (by omega)
      have c0 : wr.cell? ⟨b, off + k, none⟩ = some (.string (S k)) := by rw [bcell hbel _ _ hb]; exact hc k hlt
      have d0 := hrow.cell (i := k * 8) (by omega)
      have d2 := hrow.cell (i := k * 8 + 2) (by omega)
      have d3 := hrow.cell (i := k * 8 + 3) (by omega)
      have f0 := hrow.frozen (k * 8)
      have f2 := hrow.frozen (k * 8 + 2)
      have f3 := hrow.frozen (k * 8 + 3)
      have hne : ¬ (b = w.heap.size) := by omega
      have HB := hide (And.intro hbel hrow)
      have HK := hide hk
      clear hc hk hbel hrow
      by_cases hkm : k < m
      · obtain ⟨b', off', rfl, hb', hc'⟩ := HS'.out (by omega)
        have c1 : wr.cell? ⟨b', off' + k, none⟩ = some (.string (S' k)) := by rw [bcell HB.out.1 _ _ hb']; exact hc' k hkm
        have hne' : ¬ (b' = w.heap.size) := by omega
        clear hc'
        go_wp2
        go_roundg (gk - 1)
        case rel =>
          obtain ⟨hbel, hrow⟩ := HB.out
          refine ⟨k + 1, by have := HK.out; omega, by go_num, ((hbel.setCell (Nat.le_refl _) _).setCell (Nat.le_refl _) _).setCell (Nat.le_refl _) _, (((hrow.set (k * 8) _).set (k * 8 + 2) _).set (k * 8 + 3) _).congr fun c _ => ?_⟩
          exact stepRowTo_succ k S De (S' k) (by rw [HD.out]; simp [hkm]) c
        case measure => have := HK.out; omega
      · go_wp2
        go_roundg (gk - 1)
        case rel =>
          obtain ⟨hbel, hrow⟩ := HB.out
          refine ⟨k + 1, by have := HK.out; omega, by go_num, (hbel.setCell (Nat.le_refl _) _).setCell (Nat.le_refl _) _, ((hrow.set (k * 8) _).set (k * 8 + 2) _).congr fun c _ => ?_⟩
          exact stepRowTo_last k S De (by rw [HD.out]; simp [hkm]) c
        case measure => have := HK.out; omega
    · obtain rfl : k = n := by omega
      have HB := hide (And.intro hbel hrow)
      clear hbel hrow hk hlt
      go_wp2
      go_ret
      obtain ⟨hbel, hrow⟩ := HB.out
      exact ⟨rfl, hbel, hrow.congr fun i hi => stepRowTo_all _ _ _ _ hi⟩

/-! ### 'firstNotDone' -/
def isDone (s : ByteArray) : Bool := s.toList == [68, 79, 78, 69]
theorem isDone_t {s : ByteArray} (h : (!s.toList == [68, 79, 78, 69]) = false) : isDone s = true := by simpa [isDone] using h
theorem isDone_f {s : ByteArray} (h : (!s.toList == [68, 79, 78, 69]) = true) : isDone s = false := by simpa [isDone] using h
/-- the index of the first state that is not DONE, from k on, of so many as are left -/
def firstFrom (S : Nat → ByteArray) : Nat → Nat → Nat
  | k, 0 => k
  | k, m + 1 => if isDone (S k) = true then firstFrom S (k + 1) m else k

/-- one step, whole: its eight cells -/
theorem step_cells {w : World} {g n : Nat} {S De : Nat → ByteArray} (h : w.rowIs g 44 (n * 8) (stepRow S De)) {i : Nat} (hi : i < n) :
    w.cell? ⟨g, i * 8, none⟩ = some (.int .i64 (i : Int)) ∧ w.cell? ⟨g, i * 8 + 1, none⟩ = some (.string ByteArray.empty) ∧ w.cell? ⟨g, i * 8 + 2, none⟩ = some (.string (S i)) ∧
    w.cell? ⟨g, i * 8 + 3, none⟩ = some (.string (De i)) ∧ w.cell? ⟨g, i * 8 + 4, none⟩ = some (.string ByteArray.empty) ∧ w.cell? ⟨g, i * 8 + 5, none⟩ = some (.string ByteArray.empty) ∧
    w.cell? ⟨g, i * 8 + 6, none⟩ = some (.string ByteArray.empty) ∧ w.cell? ⟨g, i * 8 + 7, none⟩ = some (.bool false) := by
  refine ⟨?_, ?_, ?_, ?_, ?_, ?_, ?_, ?_⟩
  · exact (h.cell (i := i * 8 + 0) (by omega)).trans (by rw [stepRow_at _ _ _ _ (by omega)]; rfl)
  all_goals exact (h.cell (by omega)).trans (by rw [stepRow_at _ _ _ _ (by omega)]; rfl)

set_option maxHeartbeats 400000 in
theorem first_any (g n cap : Nat) (S De : Nat → ByteArray) (w : World) (h : w.rowIs g 44 (n * 8) (stepRow S De)) (hn : n ≤ 65536) :
    Calls Trym.prog 30 #[.slice (some ⟨g, 0, none⟩) n cap] w fun e w' => e = .returned (.int .i64 (firstFrom S 0 n : Nat)) ∧ Below w.heap.size w w' := by
  have HR := hide h
  have hg := h.lt
  clear h
  go_enter Trym.func30, Trym.ntmps30
  go_wp2
  go_loopg [7] n (fun q i wx => ∃ k : Nat, q + k = n ∧ i = .int .i64 k ∧ Below w.heap.size w wx ∧ firstFrom S 0 n = firstFrom S k q)
  case atStart => exact ⟨0, rfl, rfl, Below.refl _ _, rfl⟩
  case round =>
    obtain ⟨k, hk, rfl, hbel, hf⟩ := hrel
    by_cases hlt : k < n
    · obtain ⟨c0, c1, c2, c3, c4, c5, c6, c7⟩ := step_cells HR.out hlt
      rw [← bcell hbel _ _ hg] at c0 c1 c2 c3 c4 c5 c6 c7
      have HB := hide hbel
      have HK := hide hk
      have HF := hide hf
      clear hbel hk hf
      go_wp2
      · rename_i hd
        go_ret
        refine ⟨?_, below_drewN (n := 0) (HB.out.alloc HB.out.size _) ⟩
        have e := HF.out
        obtain ⟨q, hq⟩ : ∃ q, gk = q + 1 := ⟨gk - 1, by have := HK.out; omega⟩
        rw [hq, firstFrom, if_neg (by simp [isDone_f hd])] at e
        rw [e]; rfl
      · rename_i hd
        go_roundg (gk - 1)
        case rel =>
          obtain ⟨q, hq⟩ : ∃ q, gk = q + 1 := ⟨gk - 1, by have := HK.out; omega⟩
          refine ⟨k + 1, by have := HK.out; omega, by go_num, HB.out.alloc HB.out.size _, ?_⟩
          rw [HF.out, hq, firstFrom, if_pos (isDone_t hd)]; rfl
        case measure => have := HK.out; omega
    · obtain rfl : k = n := by omega
      obtain rfl : gk = 0 := by omega
      have HB := hide hbel
      have HF := hide hf
      clear hbel hf hk hlt
      go_wp2
      go_ret
      exact ⟨by rw [HF.out]; rfl, HB.out⟩

set_option maxHeartbeats 400000 in
theorem zzFirst_any (g n cap : Nat) (S De : Nat → ByteArray) (w : World) (h : w.rowIs g 44 (n * 8) (stepRow S De)) (hn : n ≤ 65536) :
    Calls Trym.prog 13 #[.slice (some ⟨g, 0, none⟩) n cap] w fun e w' => e = .returned (.int .i64 (firstFrom S 0 n : Nat)) ∧ Below w.heap.size w w' := by
  have HR := hide h
  clear h
  go_enter Trym.func13, Trym.ntmps13
  go_wp2_with (go_at_call 30; refine (first_any g n cap S De _ HR.out hn).mono ?_; rintro e w1 ⟨rfl, hb⟩)
  go_ret
  exact ⟨rfl, hb⟩

end Go.Proofs.Qxb6000432aMods
