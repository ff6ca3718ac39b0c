/-
  DERIVED. 'groupSound': the walk.
-/
import Derived.Test.Qxb6000432aModsRan
namespace Go.Proofs.Qxb6000432aMods
open Go.RowKit

/-- a step's eight cells lie at offset o of block b -/
def StepAt (w : World) (b o : Nat) (i : Nat) (s d : ByteArray) : Prop :=
  w.cell? ⟨b, o, none⟩ = some (.int .i64 (i : Int)) ∧ w.cell? ⟨b, o + 1, none⟩ = some (.string ByteArray.empty) ∧ w.cell? ⟨b, o + 2, none⟩ = some (.string s) ∧
  w.cell? ⟨b, o + 3, none⟩ = some (.string d) ∧ w.cell? ⟨b, o + 4, none⟩ = some (.string ByteArray.empty) ∧ w.cell? ⟨b, o + 5, none⟩ = some (.string ByteArray.empty) ∧
  w.cell? ⟨b, o + 6, none⟩ = some (.string ByteArray.empty) ∧ w.cell? ⟨b, o + 7, none⟩ = some (.bool false)

set_option maxHeartbeats 1000000 in
theorem sound_any (gb m cap sg n cap' : Nat) (S De : Nat → ByteArray) (I : Nat → Nat) (key : ByteArray) (w : World) (hm : m ≤ 65537) (hn : n ≤ 65537)
    (hrow : w.rowIs sg 44 (n * 8) (stepRow S De)) (hat : ∀ j, j < m → StepAt w gb (j * 8) (I j) (S (I j)) (De (I j)) ∧ I j < n ∧ De (I j) = key ∧ isPend (S (I j)) = false)
    (hinc : ∀ j, j + 1 < m → I j < I (j + 1)) :
    Calls Trym.prog 20 #[.slice (some ⟨gb, 0, none⟩) m cap, .slice (some ⟨sg, 0, none⟩) n cap', .string key] w fun e w' => e = .returned (.bool true) ∧ Below w.heap.size w w' := by
  have H := hide (And.intro hrow (And.intro hat hinc))
  clear hrow hat hinc
  go_enter Trym.func20, Trym.ntmps20
  go_wp2
  go_loopg [7, 8] m (fun q pv jv wx => ∃ (j : Nat) (p : Int), q + j = m ∧ pv = .int .i64 p ∧ jv = .int .i64 j ∧ -1 ≤ p ∧ p ≤ 65537 ∧ (j < m → p < (I j : Int)) ∧ ∃ c, wx = w.drewN c)
  case atStart => exact ⟨0, -1, rfl, rfl, rfl, by omega, by omega, fun _ => by omega, 0, rfl⟩
  case round =>
    obtain ⟨j, p, hj, rfl, rfl, p0, p1, hp, c, rfl⟩ := hrel
    by_cases hlt : j < m
    · obtain ⟨⟨c0, c1, c2, c3, c4, c5, c6, c7⟩, hI, hk, hpend⟩ := H.out.2.1 j hlt
      obtain ⟨e0, e1, e2, e3, e4, e5, e6, e7⟩ := step_cells H.out.1 hI
      have hnext : Hid (j + 1 < m → (I j : Int) < (I (j + 1) : Int)) := fun h => by have := H.out.2.2 j h; omega
      have hp' := hp hlt
      rw [hk] at c3 e3
      have hq : ((S (I j)).toList == [80, 69, 78, 68, 73, 78, 71]) = false := hpend
      clear hk hpend hp
      revert c0 c1 c2 c3 c4 c5 c6 c7 e0 e1 e2 e3 e4 e5 e6 e7 hI hnext hp' hq
      generalize S (I j) = s
      generalize I j = i
      intro c0 c1 c2 c3 c4 c5 c6 c7 hI e0 e1 e2 e3 e4 e5 e6 e7 hnext hp' hq
      have i0 : (0 : Int) ≤ (i : Int) := by omega
      have i1 : (i : Int) < (n : Int) := by omega
      have j0 : (0 : Int) ≤ (j : Int) := by omega
      have j1 : (j : Int) < (m : Int) := by omega
      have HJ := hide hj
      clear hj
      go_wp2
      go_quiet (fail)
      go_wp2
      go_roundg (gk - 1)
      case rel => exact ⟨j + 1, i, by have := HJ.out; omega, rfl, by go_num, by omega, by omega, hnext, c + nq, rfl⟩
      case measure => have := HJ.out; omega
    · clear hp
      go_wp2
      go_ret
      exact ⟨rfl, below_drewN (Below.refl _ _) _⟩

end Go.Proofs.Qxb6000432aMods
