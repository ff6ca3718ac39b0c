/-
  DERIVED. THE CALLEES and the short ways under FnOrElseChainIsAnyAndAll.
-/
import Derived.Test.Qxb6614043aModsRows
import Derived.Test.Qxb6614043aModsChainPlain
import Derived.WalkKit
import Derived.WalkSpells
import Derived.WalkLawsBesides
import Derived.BigQuiet
import Derived.Deep.QuietTactic
import Derived.Deep.RegionHeld
namespace Go.Proofs.Qxb6614043aMods.Chain
open Go.RowKit

theorem hide {p : Prop} (h : p) : Hid p := h
theorem bcell {B : Nat} {W w1 : World} (hb : Below B W w1) : (∀ b o, b < B → w1.cell? ⟨b, o, none⟩ = W.cell? ⟨b, o, none⟩) :=
  fun b o h => hb.cell (p := ⟨b, o, none⟩) h

set_option maxHeartbeats 400000 in
theorem orElse_bel (a b c d : Bool) (w : World) :
    Calls Trym.prog 13 #[.agg #[.bool a, .bool b], .agg #[.bool c, .bool d]] w fun e w' => e = .returned (.agg #[.bool (a || c), .bool (b && d)]) ∧ Below w.heap.size w w' := by
  cases a <;> cases b
  all_goals
    go_enter Trym.func13, Trym.ntmps13
    go_wp2
  · exact bodyPost_ret (v := .agg #[.bool c, .bool false]) (by simp [results, Trym.results13, go_sem]) rfl ⟨rfl, (((Below.refl _ _).alloc (Nat.le_refl _) _).alloc (by simp) _).alloc (by simp; omega) _⟩
  · exact bodyPost_ret (v := .agg #[.bool c, .bool d]) (by simp [results, Trym.results13, go_sem]) rfl ⟨rfl, (((Below.refl _ _).alloc (Nat.le_refl _) _).alloc (by simp) _).alloc (by simp; omega) _⟩
  · exact bodyPost_ret (v := .agg #[.bool true, .bool false]) (by simp [results, Trym.results13, go_sem]) rfl ⟨rfl, (((Below.refl _ _).alloc (Nat.le_refl _) _).alloc (by simp) _).alloc (by simp; omega) _⟩
  · exact bodyPost_ret (v := .agg #[.bool true, .bool d]) (by simp [results, Trym.results13, go_sem]) rfl ⟨rfl, (((Below.refl _ _).alloc (Nat.le_refl _) _).alloc (by simp) _).alloc (by simp; omega) _⟩

set_option maxHeartbeats 400000 in
theorem zzOrElse_bel (a b c d : Bool) (w : World) :
    Calls Trym.prog 8 #[.bool a, .bool b, .bool c, .bool d] w fun e w' => e = .returned (.tuple #[.bool (a || c), .bool (b && d)]) ∧ Below w.heap.size w w' := by
  go_enter Trym.func8, Trym.ntmps8
  go_wp2_with (go_at_call 13; refine (orElse_bel a b c d _).mono ?_; rintro e w1 ⟨rfl, hg⟩)
  go_quiet (fail)
  go_wp2
  go_ret2
  exact ⟨rfl, below_drewN (hg.alloc hg.size _) _⟩

/-- more than 65,536: true at once -/
theorem walk_big (fs ff : Bool) (a : Option Addr) (len cap : Nat) (w : World) (h : 65536 < len) (hm : len ≤ maxLen) :
    Calls Trym.prog 3 #[.bool fs, .bool ff, .slice a len cap] w fun e w' => e = .returned (.bool true) ∧ Below w.heap.size w w' := by
  unfold maxLen at hm
  have h1 : (65536 : Int) < (len : Int) := by omega
  by_cases h2 : (1048576 : Int) < (len : Int)
  all_goals
    go_enter Trym.func3, Trym.ntmps3
    go_wp2
    go_ret
    exact ⟨rfl, Below.refl _ _⟩

set_option maxHeartbeats 400000 in
theorem walk_none (fs ff : Bool) (a : Option Addr) (cap : Nat) (w : World) :
    Calls Trym.prog 3 #[.bool fs, .bool ff, .slice a 0 cap] w fun e w' => e = .returned (.bool true) ∧ Below w.heap.size w w' := by
  go_enter Trym.func3, Trym.ntmps3
  go_wp2
  go_loop [7, 8, 9] (fun s f i => s = .bool fs ∧ f = .bool ff ∧ i = .int .i64 0) (fun _ _ _ => 0)
  case atStart => exact ⟨rfl, rfl, rfl⟩
  case round =>
    obtain ⟨rfl, rfl, rfl⟩ := hrel
    go_wp2
    go_loop [10, 11, 12] (fun s f i => s = .bool fs ∧ f = .bool ff ∧ i = .int .i64 0) (fun _ _ _ => 0)
    case atStart => exact ⟨rfl, rfl, rfl⟩
    case round =>
      obtain ⟨rfl, rfl, rfl⟩ := hrel
      go_wp2
      go_ret
      exact ⟨by simp, Below.refl _ _⟩

end Go.Proofs.Qxb6614043aMods.Chain
