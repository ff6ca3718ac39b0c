/-
  DERIVED. THE WALK under FnOrElseChainIsAnyAndAll.
-/
import Derived.Test.Qxb6614043aModsChainCallees
import Derived.Deep.LoopGhost
namespace Go.Proofs.Qxb6614043aMods.Chain
open Go.RowKit

set_option maxHeartbeats 1000000 in
theorem walk_some (fs ff : Bool) (b off len cap : Nat) (S F : Nat → Bool) (w : World) (hpos : 0 < len) (hle : len ≤ 65536) (hb : b < w.heap.size)
    (hS : ∀ i, i < len → w.cell? ⟨b, off + i * 2, none⟩ = some (.bool (S i))) (hF : ∀ i, i < len → w.cell? ⟨b, off + i * 2 + 1, none⟩ = some (.bool (F i))) :
    Calls Trym.prog 3 #[.bool fs, .bool ff, .slice (some ⟨b, off, none⟩) len cap] w fun e w' => e = .returned (.bool true) ∧ Below w.heap.size w w' := by
  have HS := hide hS
  have HF := hide hF
  clear hS hF
  go_enter Trym.func3, Trym.ntmps3
  go_wp2
  go_loop [7, 8, 9] (fun s f i => ∃ k : Nat, k ≤ len ∧ s = .bool (anyTo fs S k) ∧ f = .bool (allTo ff F k) ∧ i = .int .i64 k) (fun _ _ i => len - (intOf i).toNat)
  case atStart => exact ⟨0, Nat.zero_le _, rfl, rfl, rfl⟩
  case round =>
    obtain ⟨k, hk, rfl, rfl, rfl⟩ := hrel
    by_cases hlt : k < len
    · have c0 := HS.out k hlt
      have c1 := HF.out k hlt
      have HX : Hid (anyTo fs S (k + 1) = (anyTo fs S k || S k)) := anyTo_succ _ _ _
      have HY : Hid (allTo ff F (k + 1) = (allTo ff F k && F k)) := allTo_succ _ _ _
      generalize S k = x at *
      generalize F k = y at *
      cases x <;> cases y
      all_goals
        go_wp2
        go_round
        case rel => exact ⟨k + 1, by omega, by rw [HX.out]; simp, by rw [HY.out]; simp, by go_num⟩
        case measure => simp [intOf]; omega
    · obtain rfl : k = len := by omega
      clear hlt hk
      go_wp2
      go_loopw [10, 11, 12] (fun s f i wr => ∃ c : Nat, c ≤ k ∧ s = .bool (anyTo fs S c) ∧ f = .bool (allTo ff F c) ∧ i = .int .i64 c ∧ Below w.heap.size w wr) (fun _ _ i _ => k - (intOf i).toNat)
      case atStart => exact ⟨0, Nat.zero_le _, rfl, rfl, rfl, Below.refl _ _⟩
      case round =>
        obtain ⟨c, hc, rfl, rfl, rfl, hbel⟩ := hrel
        by_cases hlt : c < k
        · have c0 : wr.cell? ⟨b, off + c * 2, none⟩ = some (.bool (S c)) := by rw [bcell hbel _ _ hb]; exact HS.out c hlt
          have c1 : wr.cell? ⟨b, off + c * 2 + 1, none⟩ = some (.bool (F c)) := by rw [bcell hbel _ _ hb]; exact HF.out c hlt
          have HB := hide hbel
          have hbr : b < wr.heap.size := Nat.lt_of_lt_of_le hb hbel.size
          clear hbel
          have i0 : (0 : Int) ≤ (c : Int) := by omega
          have i1 : (c : Int) < (k : Int) := by omega
          go_wp2
          go_region_held (fun w' => w'.cell? ⟨b, off + c * 2, none⟩ = some (.bool (S c)) ∧ w'.cell? ⟨b, off + c * 2 + 1, none⟩ = some (.bool (F c))) (first | go_keep | (rw [bcell hg _ _ (by simpa using hbr), bcell hg _ _ (by simpa using hbr)]; simp [*]))
            (first | (go_at_call 8; refine (zzOrElse_bel _ _ _ _ _).mono ?_; rintro e w1 ⟨rfl, hg⟩))
          go_wp2
          go_roundw
          case rel => exact ⟨c + 1, by omega, rfl, rfl, by go_num, HB.out.drew.trans (hg.mono (by simpa using HB.out.size))⟩
          case measure => simp [intOf]; omega
        · obtain rfl : c = k := by omega
          clear hlt hc
          obtain ⟨n, rfl⟩ : ∃ n, c = n + 1 := ⟨c - 1, by omega⟩
          have c0 : wr.cell? ⟨b, off + n * 2, none⟩ = some (.bool (S n)) := by rw [bcell hbel _ _ hb]; exact HS.out n (by omega)
          have c1 : wr.cell? ⟨b, off + n * 2 + 1, none⟩ = some (.bool (F n)) := by rw [bcell hbel _ _ hb]; exact HF.out n (by omega)
          have HB := hide hbel
          have hbr : b < wr.heap.size := Nat.lt_of_lt_of_le hb hbel.size
          clear hbel
          have i0 : (0 : Int) ≤ (n : Int) := by omega
          have i1 : (n : Int) < (n : Int) + 1 := by omega
          go_wp2
          go_quiet (fail)
          go_wp2
          go_loopg [13, 14, 15] n (fun m s f i wx => m ≤ n ∧ s = .bool (anyFrom S n m) ∧ f = .bool (allFrom F n m) ∧ i = .int .i64 ((m : Int) - 1) ∧ Below w.heap.size w wx)
          case atStart => exact ⟨Nat.le_refl _, by rw [anyFrom_last], by rw [allFrom_last], by go_num, below_drewN HB.out _⟩
          case round =>
            obtain ⟨hm, rfl, rfl, rfl, hbel⟩ := hrel
            cases gk with
            | succ m =>
              have c0 : wr.cell? ⟨b, off + m * 2, none⟩ = some (.bool (S m)) := by rw [bcell hbel _ _ hb]; exact HS.out m (by omega)
              have c1 : wr.cell? ⟨b, off + m * 2 + 1, none⟩ = some (.bool (F m)) := by rw [bcell hbel _ _ hb]; exact HF.out m (by omega)
              have HC := hide hbel
              have hbr : b < wr.heap.size := Nat.lt_of_lt_of_le hb hbel.size
              clear hbel
              have i0 : (0 : Int) ≤ (m : Int) := by omega
              have i1 : (m : Int) < (n : Int) + 1 := by omega
              have HX := hide (anyFrom_step S n m (by omega))
              have HY := hide (allFrom_step F n m (by omega))
              go_wp2
              go_region_held (fun w' => w'.cell? ⟨b, off + m * 2, none⟩ = some (.bool (S m)) ∧ w'.cell? ⟨b, off + m * 2 + 1, none⟩ = some (.bool (F m))) (first | go_keep | (rw [bcell hg _ _ (by simpa using hbr), bcell hg _ _ (by simpa using hbr)]; simp [*]))
                (first | (go_at_call 8; refine (zzOrElse_bel _ _ _ _ _).mono ?_; rintro e w1 ⟨rfl, hg⟩))
              go_wp2
              go_roundg m
              case rel => exact ⟨by omega, by rw [HX.out], by rw [HY.out], by go_num, HC.out.drew.trans (hg.mono (by simpa using HC.out.size))⟩
              case measure => omega
            | zero =>
              have HC := hide hbel
              clear hbel
              have e1 := anyFrom_all fs S n
              have e2 := allFrom_all ff F n
              go_wp2_with (go_at_call 8; refine (zzOrElse_bel _ _ _ _ _).mono ?_; rintro e w1 ⟨rfl, hg⟩)
              go_ret
              exact ⟨by simp, HC.out.trans (hg.mono HC.out.size)⟩

end Go.Proofs.Qxb6614043aMods.Chain
