import Derived.Test.Qxb6614043aModsRows
import Derived.WalkKit
import Derived.WalkSpells
import Derived.WalkLawsBesides
import Derived.BigQuiet
import Derived.Deep.QuietTactic
namespace Go.Proofs.Qxb6614043aMods
open Go.RowKit

theorem grown_trans {a b c : World} (h : Grown a b) (k : Grown b c) : Grown a c :=
  ⟨World.keptBut_trans h.1 (World.keptBut_mono (fun _ f => f.elim) k.1), fun x => (k.2.1 x).trans (h.2.1 x), Nat.le_trans h.2.2 k.2.2⟩

theorem grown_drewN {a b : World} (h : Grown a b) (n : Nat) : Grown a (b.drewN n) := by
  induction n generalizing b with
  | zero => exact h
  | succ n ih => exact ih h.drew

set_option maxHeartbeats 400000 in
theorem orElse_any (a b c d : Bool) (w : World) :
    Calls Trym.prog 13 #[.agg #[.bool a, .bool b], .agg #[.bool c, .bool d]] w fun e w' => e = .returned (.agg #[.bool (a || c), .bool (b && d)]) ∧ Grown w w' := by
  cases a <;> cases b
  all_goals
    go_enter Trym.func13, Trym.ntmps13
    go_wp2
  · exact bodyPost_ret (v := .agg #[.bool c, .bool false]) (by simp [results, Trym.results13, go_sem]) rfl ⟨rfl, (((Grown.refl _).alloc _ _).alloc _ _).alloc _ _⟩
  · exact bodyPost_ret (v := .agg #[.bool c, .bool d]) (by simp [results, Trym.results13, go_sem]) rfl ⟨rfl, (((Grown.refl _).alloc _ _).alloc _ _).alloc _ _⟩
  · exact bodyPost_ret (v := .agg #[.bool true, .bool false]) (by simp [results, Trym.results13, go_sem]) rfl ⟨rfl, (((Grown.refl _).alloc _ _).alloc _ _).alloc _ _⟩
  · exact bodyPost_ret (v := .agg #[.bool true, .bool d]) (by simp [results, Trym.results13, go_sem]) rfl ⟨rfl, (((Grown.refl _).alloc _ _).alloc _ _).alloc _ _⟩

set_option maxHeartbeats 400000 in
theorem zzOrElse_any (a b c d : Bool) (w : World) :
    Calls Trym.prog 8 #[.bool a, .bool b, .bool c, .bool d] w fun e w' => e = .returned (.tuple #[.bool (a || c), .bool (b && d)]) ∧ Grown w w' := by
  go_enter Trym.func8, Trym.ntmps8
  go_wp2_with (go_at_call 13; refine (orElse_any a b c d _).mono ?_; rintro e w1 ⟨rfl, hg⟩)
  go_quiet (fail)
  go_wp2
  go_ret2
  exact ⟨rfl, grown_drewN (hg.alloc _ _) _⟩

end Go.Proofs.Qxb6614043aMods
