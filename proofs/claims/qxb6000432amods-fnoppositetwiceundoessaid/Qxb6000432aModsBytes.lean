/-
  DERIVED. 'zzBytes' of two slices; of two slices and two strings.
-/
import Derived.Test.Qxb6000432aModsCommon
namespace Go.Proofs.Qxb6000432aMods
open Go.RowKit

def Answers (e : Ending) : Prop := ∃ b : Bool, e = .returned (.bool b)
theorem Answers.mk (b : Bool) : Answers (.returned (.bool b)) := ⟨b, rfl⟩

set_option maxHeartbeats 4000000 in
/-- 'zzBytes' (18): it answers, and touches nothing. -/
theorem bytes18 (a : Option Addr) (na ca : Nat) (Sa : Nat → ByteArray) (b : Option Addr) (nb cb : Nat) (Sb : Nat → ByteArray) (w : World) (ha : Strs w a na Sa) (ma : na ≤ maxLen) (hb : Strs w b nb Sb) (mb : nb ≤ maxLen) :
    Calls Trym.prog 18 #[.slice a na ca, .slice b nb cb] w fun e w' => Answers e ∧ w' = w := by
  unfold maxLen at *
  have Ha := hide ha
  clear ha
  have Hb := hide hb
  clear hb
  by_cases d0_a : (1048576 : Int) < (na : Int)
  · go_enter Trym.func18, Trym.ntmps18
    go_wp2
    go_ret
    exact ⟨Answers.mk _, rfl⟩
  go_enter Trym.func18, Trym.ntmps18
  go_wp2
  go_loopg [5, 6] na (fun m s i wx => ∃ (k : Nat) (q : Int), m + k = na ∧ 0 ≤ q ∧ q ≤ 1048576 ∧ s = .int .i64 q ∧ i = .int .i64 k ∧ wx = w)
  case atStart => exact ⟨0, (na : Int), rfl, by omega, by omega, rfl, rfl, rfl⟩
  case round =>
    obtain ⟨ka, qa, hka, q0a, q1a, rfl, rfl, hwr⟩ := hrel
    subst wr
    clear d0_a
    by_cases hlt : ka < na
    · obtain ⟨b, off, rfl, hb, hc⟩ := Ha.out (by omega)
      have c0 := hc ka hlt
      have HK := hide hka
      clear hc hka
      by_cases h1 : 1048576 < (Sa ka).size
      · go_wp2
        go_ret
        exact ⟨Answers.mk _, rfl⟩
      · by_cases h2 : 1048576 < qa + (Sa ka).size
        · go_wp2
          go_ret
          exact ⟨Answers.mk _, rfl⟩
        · go_wp2
          go_roundg (gk - 1)
          case rel => exact ⟨ka + 1, qa + (Sa ka).size, by have := HK.out; omega, by omega, by omega, rfl, by go_num, rfl⟩
          case measure => have := HK.out; omega
    clear hka
    by_cases d0_b : (1048576 : Int) < (nb : Int)
    · go_wp2
      go_ret
      exact ⟨Answers.mk _, rfl⟩
    by_cases d1_b : (1048576 : Int) < qa + (nb : Int)
    · go_wp2
      go_ret
      exact ⟨Answers.mk _, rfl⟩
    go_wp2
    go_loopg [5, 7] nb (fun m s i wx => ∃ (k : Nat) (q : Int), m + k = nb ∧ 0 ≤ q ∧ q ≤ 1048576 ∧ s = .int .i64 q ∧ i = .int .i64 k ∧ wx = w)
    case atStart => exact ⟨0, qa + (nb : Int), rfl, by omega, by omega, rfl, rfl, rfl⟩
    case round =>
      obtain ⟨kb, qb, hkb, q0b, q1b, rfl, rfl, hwr⟩ := hrel
      subst wr
      clear d0_b d1_b
      by_cases hlt : kb < nb
      · obtain ⟨b, off, rfl, hb, hc⟩ := Hb.out (by omega)
        have c0 := hc kb hlt
        have HK := hide hkb
        clear hc hkb
        by_cases h1 : 1048576 < (Sb kb).size
        · go_wp2
          go_ret
          exact ⟨Answers.mk _, rfl⟩
        · by_cases h2 : 1048576 < qb + (Sb kb).size
          · go_wp2
            go_ret
            exact ⟨Answers.mk _, rfl⟩
          · go_wp2
            go_roundg (gk - 1)
            case rel => exact ⟨kb + 1, qb + (Sb kb).size, by have := HK.out; omega, by omega, by omega, rfl, by go_num, rfl⟩
            case measure => have := HK.out; omega
      clear hkb
      go_wp2
      go_ret
      exact ⟨Answers.mk _, rfl⟩

set_option maxHeartbeats 4000000 in
/-- 'zzBytes' (21): it answers, and touches nothing. -/
theorem bytes21 (a : Option Addr) (na ca : Nat) (Sa : Nat → ByteArray) (b : Option Addr) (nb cb : Nat) (Sb : Nat → ByteArray) (s : ByteArray) (t : ByteArray) (w : World) (ha : Strs w a na Sa) (ma : na ≤ maxLen) (hb : Strs w b nb Sb) (mb : nb ≤ maxLen) (ms : s.size ≤ maxLen) (mt : t.size ≤ maxLen) :
    Calls Trym.prog 21 #[.slice a na ca, .slice b nb cb, .string s, .string t] w fun e w' => Answers e ∧ w' = w := by
  unfold maxLen at *
  have Ha := hide ha
  clear ha
  have Hb := hide hb
  clear hb
  by_cases d0_a : (1048576 : Int) < (na : Int)
  · go_enter Trym.func21, Trym.ntmps21
    go_wp2
    go_ret
    exact ⟨Answers.mk _, rfl⟩
  go_enter Trym.func21, Trym.ntmps21
  go_wp2
  go_loopg [9, 10] na (fun m s i wx => ∃ (k : Nat) (q : Int), m + k = na ∧ 0 ≤ q ∧ q ≤ 1048576 ∧ s = .int .i64 q ∧ i = .int .i64 k ∧ wx = w)
  case atStart => exact ⟨0, (na : Int), rfl, by omega, by omega, rfl, rfl, rfl⟩
  case round =>
    obtain ⟨ka, qa, hka, q0a, q1a, rfl, rfl, hwr⟩ := hrel
    subst wr
    clear d0_a
    by_cases hlt : ka < na
    · obtain ⟨b, off, rfl, hb, hc⟩ := Ha.out (by omega)
      have c0 := hc ka hlt
      have HK := hide hka
      clear hc hka
      by_cases h1 : 1048576 < (Sa ka).size
      · go_wp2
        go_ret
        exact ⟨Answers.mk _, rfl⟩
      · by_cases h2 : 1048576 < qa + (Sa ka).size
        · go_wp2
          go_ret
          exact ⟨Answers.mk _, rfl⟩
        · go_wp2
          go_roundg (gk - 1)
          case rel => exact ⟨ka + 1, qa + (Sa ka).size, by have := HK.out; omega, by omega, by omega, rfl, by go_num, rfl⟩
          case measure => have := HK.out; omega
    clear hka
    by_cases d0_b : (1048576 : Int) < (nb : Int)
    · go_wp2
      go_ret
      exact ⟨Answers.mk _, rfl⟩
    by_cases d1_b : (1048576 : Int) < qa + (nb : Int)
    · go_wp2
      go_ret
      exact ⟨Answers.mk _, rfl⟩
    go_wp2
    go_loopg [9, 11] nb (fun m s i wx => ∃ (k : Nat) (q : Int), m + k = nb ∧ 0 ≤ q ∧ q ≤ 1048576 ∧ s = .int .i64 q ∧ i = .int .i64 k ∧ wx = w)
    case atStart => exact ⟨0, qa + (nb : Int), rfl, by omega, by omega, rfl, rfl, rfl⟩
    case round =>
      obtain ⟨kb, qb, hkb, q0b, q1b, rfl, rfl, hwr⟩ := hrel
      subst wr
      clear d0_b d1_b
      by_cases hlt : kb < nb
      · obtain ⟨b, off, rfl, hb, hc⟩ := Hb.out (by omega)
        have c0 := hc kb hlt
        have HK := hide hkb
        clear hc hkb
        by_cases h1 : 1048576 < (Sb kb).size
        · go_wp2
          go_ret
          exact ⟨Answers.mk _, rfl⟩
        · by_cases h2 : 1048576 < qb + (Sb kb).size
          · go_wp2
            go_ret
            exact ⟨Answers.mk _, rfl⟩
          · go_wp2
            go_roundg (gk - 1)
            case rel => exact ⟨kb + 1, qb + (Sb kb).size, by have := HK.out; omega, by omega, by omega, rfl, by go_num, rfl⟩
            case measure => have := HK.out; omega
      clear hkb
      by_cases d0_s : (1048576 : Int) < (s.size : Int)
      · go_wp2
        go_ret
        exact ⟨Answers.mk _, rfl⟩
      by_cases d1_s : (1048576 : Int) < qb + (s.size : Int)
      · go_wp2
        go_ret
        exact ⟨Answers.mk _, rfl⟩
      by_cases d2_t : (1048576 : Int) < (t.size : Int)
      · go_wp2
        go_ret
        exact ⟨Answers.mk _, rfl⟩
      by_cases d3_t : (1048576 : Int) < qb + (s.size : Int) + (t.size : Int)
      · go_wp2
        go_ret
        exact ⟨Answers.mk _, rfl⟩
      go_wp2
      go_ret
      exact ⟨Answers.mk _, rfl⟩

end Go.Proofs.Qxb6000432aMods
