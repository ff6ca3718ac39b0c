/-
  DERIVED. FnFirstNotDoneMonotone: the walk.
-/
import Derived.Test.Qxb6000432aModsMonoPlain
namespace Go.Proofs.Qxb6000432aMods
open Go.RowKit

theorem strs_row {w : World} {g n : Nat} {S : Nat → ByteArray} (h : w.rowIs g 9 n (fun i => .string (S i))) : Strs w (some ⟨g, 0, none⟩) n S := fun _ =>
  ⟨g, 0, rfl, h.lt, fun i hi => by rw [Nat.zero_add]; exact h.cell hi⟩
theorem strs_nil (w : World) (S : Nat → ByteArray) : Strs w none 0 S := fun h => absurd h (Nat.lt_irrefl _)
theorem row_below {B : Nat} {w w' : World} {g n : Nat} {t : TypeId} {f : Nat → Value} (h : w.rowIs g t n f) (hb : Below B w w') (hg : g < B) : w'.rowIs g t n f := h.of_block (hb.block g hg)

set_option maxHeartbeats 1000000 in
/-- the main way: k is an index -/
theorem mono_main (b off n cap : Nat) (S : Nat → ByteArray) (k : Nat) (w : World) (hS : Strs w (some ⟨b, off, none⟩) n S) (hn : n ≤ 65536) (hk : k < n) :
    Calls Trym.prog 5 #[.slice (some ⟨b, off, none⟩) n cap, .int .i64 k] w fun e w' => e = .returned (.bool true) ∧ Below w.heap.size w w' := by
  have HS := hide hS
  clear hS
  have hkn : (k : Int) < (n : Int) := by omega
  have hk0 : (0 : Int) ≤ (k : Int) := by omega
  go_enter Trym.func5, Trym.ntmps5
  go_wp2_with fail
  refine (bytes17 _ n cap S _ _ HS.out (by unfold maxLen; omega)).mono ?_
  rintro e w1 ⟨⟨x, rfl⟩, hw⟩
  subst w1
  cases x
  · go_wp2
    go_ret
    exact ⟨rfl, Below.refl _ _⟩
  go_wp2_with fail
  refine (strsBytes_any _ n cap S _ HS.out (by unfold maxLen; omega)).mono ?_
  rintro e w1 ⟨⟨r, r0, r1, _, rfl⟩, hw⟩
  subst w1
  by_cases hr : 1048576 < r
  · go_wp2
    go_ret
    exact ⟨rfl, Below.refl _ _⟩
  go_wp2_with fail
  refine (clone_some ⟨b, off, none⟩ n cap S _ HS.out hn).mono ?_
  rintro e w1 ⟨rfl, hb1, hrow1⟩
  have hz1 : w.heap.size < w1.heap.size := hrow1.lt
  have c0 := hrow1.cell hk
  have H1 := hide (And.intro hb1 hrow1)
  clear hb1 hrow1
  go_wp2_with fail
  go_loopg [5, 6] k (fun m s i wx => ∃ j : Nat, m + j = k ∧ s = .bool (fstTo (!isDone (S k)) S j) ∧ i = .int .i64 j ∧ wx = w1)
  case atStart => exact ⟨0, rfl, rfl, rfl, rfl⟩
  case round =>
    obtain ⟨j, hj, rfl, rfl, rfl⟩ := hrel
    by_cases hlt : j < k
    · have c1 := H1.out.2.cell (i := j) (by omega)
      have HJ := hide hj
      clear hj c0
      go_wp2
      · rename_i hd
        go_roundg (gk - 1)
        case rel => exact ⟨j + 1, by have := HJ.out; omega, by rw [fstTo_f (isDone_f hd)], by go_num, rfl⟩
        case measure => have := HJ.out; omega
      · rename_i hd
        go_roundg (gk - 1)
        case rel => exact ⟨j + 1, by have := HJ.out; omega, by rw [fstTo_t (isDone_t hd)], by go_num, rfl⟩
        case measure => have := HJ.out; omega
    · obtain rfl : j = k := by omega
      clear hj hlt
      go_wp2_with fail
      have HD : Hid ((fun _ => ByteArray.empty) = fun i => if i < 0 then (fun _ : Nat => ByteArray.empty) i else ByteArray.empty) := by
        show _ = _
        funext i; simp
      -- build, first
      refine (build_any (some ⟨w.heap.size, 0, none⟩) none n 0 n 0 S (fun _ => ByteArray.empty) wr (strs_row H1.out.2) (strs_nil _ _) hn (by omega) (fun _ => ByteArray.empty) HD.out).mono ?_
      rintro e w2 ⟨rfl, hb2, hrow2⟩
      have H2 := hide (And.intro hb2 hrow2)
      clear hb2 hrow2
      go_wp2_with fail
      refine (zzFirst_any _ n n S (fun _ => ByteArray.empty) _ H2.out.2 hn).mono ?_
      rintro e w3 ⟨rfl, hb3⟩
      -- the copy, marked
      have row3 : w3.rowIs w.heap.size 9 n (fun i => .string (S i)) := row_below (row_below H1.out.2 H2.out.1 hz1) hb3 (Nat.lt_of_lt_of_le hz1 H2.out.1.size)
      have B3 : Below w.heap.size w w3 := (H1.out.1.trans (H2.out.1.mono (Nat.le_of_lt hz1))).trans (hb3.mono (Nat.le_trans (Nat.le_of_lt hz1) H2.out.1.size))
      have H3 := hide (And.intro B3 row3)
      clear hb3 row3 B3 H2 c0
      go_wp2_with fail
      refine (clone_some ⟨w.heap.size, 0, none⟩ n n S _ (strs_row H3.out.2) hn).mono ?_
      rintro e w4 ⟨rfl, hb4, hrow4⟩
      have d0 := hrow4.cell hk
      have f0 := hrow4.frozen j
      have H4 := hide (And.intro hb4 hrow4)
      clear hb4 hrow4
      go_wp2_with fail
      obtain ⟨w5, hw5⟩ : ∃ w5, w5 = w4.setCell ⟨w3.heap.size, j, none⟩ (.string ⟨#[68, 79, 78, 69]⟩) := ⟨_, rfl⟩
      have row5 : w5.rowIs w3.heap.size 9 n (fun i => .string (marked S j i)) := by
        rw [hw5]
        refine (H4.out.2.set j _).congr fun i _ => ?_
        unfold marked
        by_cases e : i = j
        · simp [e]
        · simp [e]
      have B5 : Below w.heap.size w w5 := by
        rw [hw5]
        exact (H3.out.1.trans (H4.out.1.mono H3.out.1.size)).setCell H3.out.1.size _
      rw [← hw5]
      have H5 := hide (And.intro B5 row5)
      clear B5 row5 hw5 d0 f0 H4 H1
      refine (build_any (some ⟨w3.heap.size, 0, none⟩) none n 0 n 0 (marked S j) (fun _ => ByteArray.empty) w5 (strs_row H5.out.2) (strs_nil _ _) hn (by omega) (fun _ => ByteArray.empty) HD.out).mono ?_
      rintro e w6 ⟨rfl, hb6, hrow6⟩
      have H6 := hide (And.intro hb6 hrow6)
      clear hb6 hrow6
      go_wp2_with fail
      refine (zzFirst_any _ n n (marked S j) (fun _ => ByteArray.empty) _ H6.out.2 hn).mono ?_
      rintro e w7 ⟨rfl, hb7⟩
      have B7 : Below w.heap.size w w7 := (H5.out.1.trans (H6.out.1.mono H5.out.1.size)).trans (hb7.mono (Nat.le_trans H5.out.1.size H6.out.1.size))
      have H7 := hide B7
      clear hb7 B7 H6 H5 H3
      cases hf : fstTo (!isDone (S j)) S j with
      | true =>
        have hl := mono_law_t S n j hk hf
        have hl' : (firstFrom S 0 n : Int) < (firstFrom (marked S j) 0 n : Int) := by omega
        clear hf hl
        go_wp2
        go_ret
        exact ⟨rfl, H7.out⟩
      | false =>
        have hl := mono_law_f S n j hf
        clear hf
        go_wp2
        go_ret
        exact ⟨by simp, H7.out⟩

set_option maxHeartbeats 400000 in
theorem mono_big (a : Option Addr) (n cap : Nat) (S : Nat → ByteArray) (k : Int) (w : World) (hS : Strs w a n S) (hn : n ≤ maxLen) (hbig : 65536 < n) :
    Calls Trym.prog 5 #[.slice a n cap, .int .i64 k] w fun e w' => e = .returned (.bool true) ∧ Below w.heap.size w w' := by
  have HS := hide hS
  clear hS
  go_enter Trym.func5, Trym.ntmps5
  go_wp2_with fail
  refine (bytes17 _ n cap S _ _ HS.out hn).mono ?_
  rintro e w1 ⟨⟨x, rfl⟩, hw⟩
  subst w1
  cases x
  all_goals
    go_wp2
    go_ret
    exact ⟨rfl, Below.refl _ _⟩

set_option maxHeartbeats 400000 in
theorem mono_out (a : Option Addr) (n cap : Nat) (S : Nat → ByteArray) (k : Int) (w : World) (hS : Strs w a n S) (hn : n ≤ 65536) (hk : k < 0 ∨ (n : Int) ≤ k) :
    Calls Trym.prog 5 #[.slice a n cap, .int .i64 k] w fun e w' => e = .returned (.bool true) ∧ Below w.heap.size w w' := by
  have HS := hide hS
  clear hS
  go_enter Trym.func5, Trym.ntmps5
  go_wp2_with fail
  refine (bytes17 _ n cap S _ _ HS.out (by unfold maxLen; omega)).mono ?_
  rintro e w1 ⟨⟨x, rfl⟩, hw⟩
  subst w1
  cases x
  · go_wp2
    go_ret
    exact ⟨rfl, Below.refl _ _⟩
  go_wp2_with fail
  refine (strsBytes_any _ n cap S _ HS.out (by unfold maxLen; omega)).mono ?_
  rintro e w1 ⟨⟨r, r0, r1, _, rfl⟩, hw⟩
  subst w1
  by_cases hr : 1048576 < r
  · go_wp2
    go_ret
    exact ⟨rfl, Below.refl _ _⟩
  rcases hk with hk | hk
  · go_wp2
    go_ret
    exact ⟨rfl, Below.refl _ _⟩
  · by_cases h0 : k < 0
    · omega
    go_wp2
    go_ret
    exact ⟨rfl, Below.refl _ _⟩

theorem mono_any (a : Option Addr) (n cap : Nat) (S : Nat → ByteArray) (k : Int) (w : World) (hS : Strs w a n S) (hn : n ≤ maxLen) :
    Calls Trym.prog 5 #[.slice a n cap, .int .i64 k] w fun e w' => e = .returned (.bool true) ∧ Below w.heap.size w w' := by
  by_cases hbig : 65536 < n
  · exact mono_big a n cap S k w hS hn hbig
  by_cases hk : k < 0 ∨ (n : Int) ≤ k
  · exact mono_out a n cap S k w hS (by omega) hk
  obtain ⟨j, rfl⟩ : ∃ j : Nat, k = (j : Int) := ⟨k.toNat, by omega⟩
  have hj : j < n := by omega
  obtain ⟨b, off, rfl, _⟩ := hS (by omega)
  exact mono_main b off n cap S j w hS (by omega) hj

end Go.Proofs.Qxb6000432aMods
