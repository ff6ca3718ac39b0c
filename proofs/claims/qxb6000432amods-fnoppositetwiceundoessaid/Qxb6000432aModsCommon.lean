/-
  DERIVED. WHAT ALL WALKS OF THIS SEAT SHARE: a slice of strings that came in or was made; the two readers of lengths.
-/
import Derived.Test.Qxb6000432aModsRows
import Derived.WalkKit
import Derived.WalkSpells
import Derived.WalkLawsBesides
import Derived.BigQuiet
import Derived.Deep.QuietTactic
import Derived.Deep.LoopGhost
import Derived.Deep.OwnRows
namespace Go.Proofs.Qxb6000432aMods
open Go.RowKit

theorem hide {p : Prop} (h : p) : Hid p := h
theorem bcell {B : Nat} {W w1 : World} (hb : Below B W w1) : (∀ b o, b < B → w1.cell? ⟨b, o, none⟩ = W.cell? ⟨b, o, none⟩) :=
  fun b o h => hb.cell (p := ⟨b, o, none⟩) h

/-- A slice of n strings, the i-th 'S i': where there is one it lies in a row of cells. -/
def Strs (w : World) (a : Option Addr) (n : Nat) (S : Nat → ByteArray) : Prop :=
  0 < n → ∃ b off, a = some ⟨b, off, none⟩ ∧ b < w.heap.size ∧ ∀ i, i < n → w.cell? ⟨b, off + i, none⟩ = some (.string (S i))

theorem Strs.below {w w' : World} {a : Option Addr} {n : Nat} {S : Nat → ByteArray} (h : Strs w a n S) (hb : Below w.heap.size w w') : Strs w' a n S := by
  intro hn
  obtain ⟨b, off, ha, hlt, hc⟩ := h hn
  exact ⟨b, off, ha, Nat.lt_of_lt_of_le hlt hb.size, fun i hi => by rw [bcell hb _ _ hlt]; exact hc i hi⟩

set_option maxHeartbeats 400000 in
/-- 'strsBytes': some number up to the bound and one. -/
theorem strsBytes_any (a : Option Addr) (n cap : Nat) (S : Nat → ByteArray) (w : World) (hS : Strs w a n S) (hn : n ≤ maxLen) :
    Calls Trym.prog 11 #[.slice a n cap] w fun e w' => (∃ r : Int, 0 ≤ r ∧ r ≤ 1048577 ∧ (65536 < n → r = 1048577) ∧ e = .returned (.int .i64 r)) ∧ w' = w := by
  unfold maxLen at hn
  by_cases hbig : 65536 < n
  · go_enter Trym.func11, Trym.ntmps11
    go_wp2
    go_ret
    exact ⟨⟨1048577, by omega, by omega, fun _ => rfl, rfl⟩, rfl⟩
  · have HS := hide hS
    clear hS
    go_enter Trym.func11, Trym.ntmps11
    go_wp2
    go_loopg [3, 4] n (fun m s i wx => ∃ (k : Nat) (q : Int), m + k = n ∧ 0 ≤ q ∧ q ≤ 1048576 ∧ s = .int .i64 q ∧ i = .int .i64 k ∧ wx = w)
    case atStart => exact ⟨0, 16 * n, rfl, by omega, by omega, rfl, rfl, rfl⟩
    case round =>
      obtain ⟨k, q, hk, q0, q1, rfl, rfl, rfl⟩ := hrel
      by_cases hlt : k < n
      · obtain ⟨b, off, rfl, hb, hc⟩ := HS.out (by omega)
        have c0 := hc k hlt
        have HK := hide hk
        clear hc hk
        by_cases h1 : 1048576 < (S k).size
        · go_wp2
          go_ret
          exact ⟨⟨1048577, by omega, by omega, fun _ => rfl, rfl⟩, rfl⟩
        · by_cases h2 : 1048576 < q + (S k).size
          · go_wp2
            go_ret
            exact ⟨⟨1048577, by omega, by omega, fun _ => rfl, rfl⟩, rfl⟩
          · go_wp2
            go_roundg (gk - 1)
            case rel => exact ⟨k + 1, q + (S k).size, by have := HK.out; omega, by omega, by omega, rfl, by go_num, rfl⟩
            case measure => have := HK.out; omega
      · go_wp2
        go_ret
        exact ⟨⟨q, by omega, by omega, fun h => absurd h hbig, rfl⟩, rfl⟩

theorem Hid.done {P : Program} {f : FuncId} {args : Array Value} {w : World} {b : Bool} (h : Calls P f args w fun e w' => e = .returned (.bool b) ∧ w' = w) :
    Calls P f args w fun e w' => (∃ b : Bool, e = .returned (.bool b)) ∧ w' = w := h.mono fun _ _ ⟨h1, h2⟩ => ⟨⟨b, h1⟩, h2⟩

set_option maxHeartbeats 400000 in
/-- 'zzBytes' of one slice and an int: it answers, and touches nothing. -/
theorem bytes17 (a : Option Addr) (n cap : Nat) (S : Nat → ByteArray) (x : Int) (w : World) (hS : Strs w a n S) (hn : n ≤ maxLen) :
    Calls Trym.prog 17 #[.slice a n cap, .int .i64 x] w fun e w' => (∃ b : Bool, e = .returned (.bool b)) ∧ w' = w := by
  unfold maxLen at hn
  by_cases hbig : 1048576 < n
  · go_enter Trym.func17, Trym.ntmps17
    go_wp2
    go_ret
    exact ⟨⟨_, rfl⟩, rfl⟩
  · have HS := hide hS
    clear hS
    go_enter Trym.func17, Trym.ntmps17
    go_wp2
    go_loopg [5, 6] n (fun m s i wx => ∃ (k : Nat) (q : Int), m + k = n ∧ 0 ≤ q ∧ q ≤ 1048576 ∧ s = .int .i64 q ∧ i = .int .i64 k ∧ wx = w)
    case atStart => exact ⟨0, n, rfl, by omega, by omega, rfl, rfl, rfl⟩
    case round =>
      obtain ⟨k, q, hk, q0, q1, rfl, rfl, rfl⟩ := hrel
      by_cases hlt : k < n
      · obtain ⟨b, off, rfl, hb, hc⟩ := HS.out (by omega)
        have c0 := hc k hlt
        have HK := hide hk
        clear hc hk
        by_cases h1 : 1048576 < (S k).size
        · go_wp2
          go_ret
          exact ⟨⟨_, rfl⟩, rfl⟩
        · by_cases h2 : 1048576 < q + (S k).size
          · go_wp2
            go_ret
            exact ⟨⟨_, rfl⟩, rfl⟩
          · go_wp2
            go_roundg (gk - 1)
            case rel => exact ⟨k + 1, q + (S k).size, by have := HK.out; omega, by omega, by omega, rfl, by go_num, rfl⟩
            case measure => have := HK.out; omega
      · go_wp2
        go_ret
        exact ⟨⟨_, rfl⟩, rfl⟩

/-! ### 'cloneStrs' -/
theorem info9 : (Trym.prog.info? 9).map (fun i => (i.zero, i.size, i.bytes)) = some (some (.string ByteArray.empty), 1, 16) := by kernel_rfl

set_option maxHeartbeats 400000 in
theorem clone_nil (w : World) : Calls Trym.prog 12 #[.slice none 0 0] w fun e w' => e = .returned (.slice none 0 0) ∧ w' = w := by
  have hnil := fun (w : World) => Lib.run_eql_slice_nil (P := Trym.prog) w 22 9 none 0 0 0 0 Trym.underlying22
  go_enter Trym.func12, Trym.ntmps12
  go_wp2
  go_ret
  exact ⟨rfl, rfl⟩

set_option maxHeartbeats 400000 in
/-- A slice that is not nil is copied into a row of its own. -/
theorem clone_some (x : Addr) (n cap : Nat) (S : Nat → ByteArray) (w : World) (hS : Strs w (some x) n S) (hn : n ≤ 65536) :
    Calls Trym.prog 12 #[.slice (some x) n cap] w fun e w' => e = .returned (.slice (some ⟨w.heap.size, 0, none⟩) n n) ∧ Below w.heap.size w w' ∧ w'.rowIs w.heap.size 9 n (fun i => .string (S i)) := by
  have hmk := run_make_row' (P := Trym.prog) 22 9 (.string ByteArray.empty) 16 Trym.underlying22 info9 rfl .i64 .i64 n (by omega) (by omega)
  have hnil := fun (w : World) => Lib.run_eql_slice_nil (P := Trym.prog) w 22 9 (some x) n cap 0 0 Trym.underlying22
  have HS := hide hS
  clear hS
  go_enter Trym.func12, Trym.ntmps12
  go_wp2
  go_loopg [4] n (fun m i wx => ∃ k : Nat, m + k = n ∧ i = .int .i64 k ∧ Below w.heap.size w wx ∧ wx.rowIs w.heap.size 9 n (fun i => .string (if i < k then S i else ByteArray.empty)))
  case atStart => exact ⟨0, rfl, rfl, (Below.refl _ _).alloc (Nat.le_refl _) _, (World.rowIs_made _ _ _ _).congr fun i _ => by simp⟩
  case round =>
    obtain ⟨k, hk, rfl, hbel, hrow⟩ := hrel
    by_cases hlt : k < n
    · obtain ⟨b, off, hx, hb, hc⟩ := HS.out (by omega)
      injection hx with hx
      subst hx
      have c0 : wr.cell? ⟨b, off + k, none⟩ = some (.string (S k)) := by rw [bcell hbel _ _ hb]; exact hc k hlt
      have c1 := hrow.cell hlt
      have f1 := hrow.frozen k
      have HB := hide (And.intro hbel hrow)
      have HK := hide hk
      clear hc hk hbel hrow
      go_wp2
      go_roundg (gk - 1)
      case rel =>
        obtain ⟨hbel, hrow⟩ := HB.out
        refine ⟨k + 1, by have := HK.out; omega, by go_num, hbel.setCell (Nat.le_refl _) _, (hrow.set k _).congr fun i hi => ?_⟩
        by_cases e : i = k
        · subst e; simp
        · simp only [if_neg e]
          by_cases e2 : i < k
          · rw [if_pos e2, if_pos (by omega)]
          · rw [if_neg e2, if_neg (by omega)]
      case measure => have := HK.out; omega
    · obtain rfl : k = n := by omega
      have HB := hide (And.intro hbel hrow)
      clear hbel hrow hk hlt
      go_wp2
      go_ret
      obtain ⟨hbel, hrow⟩ := HB.out
      exact ⟨rfl, hbel, hrow.congr fun i hi => by rw [if_pos hi]⟩

end Go.Proofs.Qxb6000432aMods
