/-
  DERIVED. THE WALK under FnIsWordByteDialectAndCount.
-/
import Derived.Test.Qxb6614043aModsByteCallees
namespace Go.Proofs.Qxb6614043aMods.Bytes
open Go.RowKit

/-- too long a text: true at once -/
theorem count_big (x0 x1 x2 d : Bool) (s1 s2 : ByteArray) (x6 : Bool) (c : Int) (w : World) (m1 : s1.size ≤ maxLen) (m2 : s2.size ≤ maxLen) (h : 524288 < s1.size ∨ 524288 < s2.size) :
    Calls Trym.prog 5 #[.bool x0, .bool x1, .bool x2, .bool d, .string s1, .string s2, .bool x6, .int .u8 c] w fun e w' => e = .returned (.bool true) ∧ Grown w w' := by
  unfold maxLen at m1 m2
  by_cases a1 : 1048576 < s1.size
  · go_enter Trym.func5, Trym.ntmps5
    go_wp2
    go_ret
    exact ⟨rfl, Grown.refl _⟩
  by_cases a2 : 1048576 < s2.size
  · go_enter Trym.func5, Trym.ntmps5
    go_wp2
    go_ret
    exact ⟨rfl, Grown.refl _⟩
  by_cases a3 : 1048576 < s1.size + s2.size
  · go_enter Trym.func5, Trym.ntmps5
    go_wp2
    go_ret
    exact ⟨rfl, Grown.refl _⟩
  by_cases a4 : 524288 < s1.size
  · go_enter Trym.func5, Trym.ntmps5
    go_wp2
    go_ret
    exact ⟨rfl, Grown.refl _⟩
  have a5 : 524288 < s2.size := by omega
  go_enter Trym.func5, Trym.ntmps5
  go_wp2
  go_ret
  exact ⟨rfl, Grown.refl _⟩

set_option maxHeartbeats 1000000 in
theorem count_small (x0 x1 x2 d : Bool) (s1 s2 : ByteArray) (x6 : Bool) (c : Int) (w : World) (h0 : 0 ≤ c) (h1 : c ≤ 255) (m1 : s1.size ≤ 524288) (m2 : s2.size ≤ 524288) :
    Calls Trym.prog 5 #[.bool x0, .bool x1, .bool x2, .bool d, .string s1, .string s2, .bool x6, .int .u8 c] w fun e w' => e = .returned (.bool true) ∧ Grown w w' := by
  have HG := Grown.refl w
  have a4 : ¬ (524288 < s1.size) := by omega
  have a5 : ¬ (524288 < s2.size) := by omega
  obtain ⟨on, off, hon, hoff, htest⟩ : ∃ on off : Bool, wordB true c = on ∧ wordB false c = off ∧ ((on = off ∧ (c == 36) = false) ∨ (on = true ∧ off = false ∧ (c == 36) = true)) := by
    by_cases e : c = 36
    · subst e; exact ⟨true, false, by decide, by decide, Or.inr ⟨rfl, rfl, rfl⟩⟩
    · exact ⟨_, _, rfl, rfl, Or.inl ⟨word_other true c e, by simpa using e⟩⟩
  have HN := hide hon
  have HF := hide hoff
  clear hon hoff
  obtain ⟨g, hgot⟩ : ∃ g, wordB d c = g := ⟨_, rfl⟩
  have HT := hide hgot
  clear hgot
  go_enter Trym.func5, Trym.ntmps5
  go_wp2_with (first | (go_at_call 9; refine (bytes9 _ _ _ _ _ _ _ _ _ m1 m2).mono ?_; rintro e w1 ⟨rfl, hw1⟩; subst w1))
  refine (zzWord_is g _ _ _ _ _ _ _ _ _ h0 h1 HT.out).mono ?_
  rintro e w1 ⟨rfl, hg1⟩
  go_wp2_with fail
  refine (zzWord_is g _ _ _ _ _ _ _ _ _ h0 h1 HT.out).mono ?_
  rintro e w2 ⟨rfl, hg2⟩
  go_wp2_with fail
  refine (zzWord_is on _ _ _ _ _ _ _ _ _ h0 h1 HN.out).mono ?_
  rintro e w3 ⟨rfl, hg3⟩
  go_wp2_with fail
  refine (zzWord_is off _ _ _ _ _ _ _ _ _ h0 h1 HF.out).mono ?_
  rintro e w4 ⟨rfl, hg4⟩
  have hg := grown_trans hg1 (grown_trans hg2 (grown_trans hg3 hg4))
  clear hg1 hg2 hg3 hg4 HG HN HF HT
  rcases htest with ⟨rfl, e36⟩ | ⟨rfl, rfl, e36⟩
  all_goals
    go_wp2_with fail
    go_loopg [21, 22] 256 (fun m n i wx => ∃ k : Nat, m + k = 256 ∧ n = .int .i64 (cnt d k) ∧ i = .int .i64 k ∧ Grown w wx)
    case atStart => exact ⟨0, rfl, rfl, rfl, hg⟩
    case round =>
      obtain ⟨k, hk, rfl, rfl, hgr⟩ := hrel
      have hc := cnt_le d k
      by_cases hlt : k < 256
      · obtain ⟨b, hb⟩ : ∃ b, wordB d (k : Int) = b := ⟨_, rfl⟩
        have HK := hide hk
        have HB := hide hb
        have HR := hide hgr
        have i0 : (0 : Int) ≤ (k : Int) := by omega
        have i1 : (k : Int) < 256 := by omega
        have iw : IntKind.u8.wrap (k : Int) = (k : Int) := IntWalk.u8_in _ (by omega)
        have HL := hide hlt
        clear hk hb hgr hg hlt
        cases b
        · go_wp2_with (go_at_call 10; refine (zzWord_is false _ _ _ _ _ _ _ _ _ i0 (by omega) HB.out).mono ?_; rintro e w5 ⟨rfl, hg5⟩)
          go_roundg (gk - 1)
          case rel => exact ⟨k + 1, by have := HK.out; have := HL.out; omega, by rw [cnt_f HB.out], by go_num, grown_trans HR.out hg5⟩
          case measure => have := HK.out; have := HL.out; omega
        · go_wp2_with (go_at_call 10; refine (zzWord_is true _ _ _ _ _ _ _ _ _ i0 (by omega) HB.out).mono ?_; rintro e w5 ⟨rfl, hg5⟩)
          go_roundg (gk - 1)
          case rel => exact ⟨k + 1, by have := HK.out; have := HL.out; omega, by rw [cnt_t HB.out]; go_num, by go_num, grown_trans HR.out hg5⟩
          case measure => have := HK.out; have := HL.out; omega
      · obtain rfl : k = 256 := by omega
        have HR := hide hgr
        clear hk hgr hg hc hlt
        cases d
        · rw [cnt_off]
          go_wp2
          go_ret
          exact ⟨rfl, HR.out⟩
        · rw [cnt_on]
          go_wp2
          go_ret
          exact ⟨rfl, HR.out⟩

end Go.Proofs.Qxb6614043aMods.Bytes
