/-
  DERIVED. THE WALKS (C) under FnIsWordByteWidensNameBytes.
-/
import Derived.Test.Qxb6614043aModsByteCallees
namespace Go.Proofs.Qxb6614043aMods.Bytes
open Go.RowKit

set_option maxHeartbeats 1000000 in
/-- another word byte -/
theorem widen_dollar (x0 x1 x2 d : Bool) (s1 s2 : ByteArray) (x6 : Bool) (c : Int) (w : World) (h0 : 0 ≤ c) (h1 : c ≤ 255) (m1 : s1.size ≤ 524288) (m2 : s2.size ≤ 524288)
    (hg : wordB d c = true) (hn : nameB c = false) (hs : wordB d (c) = true) (k0 : 0 ≤ c) (k1 : c ≤ 255) (p1 : c < 65) :
    Calls Trym.prog 6 #[.bool x0, .bool x1, .bool x2, .bool d, .string s1, .string s2, .bool x6, .int .u8 c] w fun e w' => e = .returned (.bool true) ∧ Grown w w' := by
    have HG := hide hg
    have HN := hide hn
    have HS := hide hs
    clear hg hn hs
    go_enter Trym.func6, Trym.ntmps6
    go_wp2_with (first | (go_at_call 11; refine (bytes11 _ _ _ _ _ _ _ _ _ m1 m2).mono ?_; rintro e w1 ⟨rfl, hw1⟩; subst w1))
    refine (zzWord_is true _ _ _ _ _ _ _ _ _ h0 h1 HG.out).mono ?_
    rintro e w1 ⟨rfl, hg1⟩
    go_wp2_with (first | (go_at_call 12; refine (zzName_is false _ _ HN.out).mono ?_; rintro e w2 ⟨rfl, hw2⟩; subst w2))
    refine (zzWord_is true _ _ _ _ _ _ _ _ _ k0 k1 HS.out).mono ?_
    rintro e w2 ⟨rfl, hg2⟩
    have HR := grown_trans hg1 hg2
    clear hg1 hg2
    go_wp2_with fail
    go_loopg [19, 20] 256 (fun m n i wx => ∃ k : Nat, m + k = 256 ∧ n = .int .i64 (ext d k) ∧ i = .int .i64 k ∧ Grown w wx)
    case atStart => exact ⟨0, rfl, rfl, rfl, HR⟩
    case round =>
      obtain ⟨k, hk, rfl, rfl, hgr⟩ := hrel
      have hc := ext_le d k
      clear HR HG HN HS p1 h0 h1 k0 k1
      by_cases hlt : k < 256
      · have i0 : (0 : Int) ≤ (k : Int) := by omega
        have i1 : (k : Int) < 256 := by omega
        have iw : IntKind.u8.wrap (k : Int) = (k : Int) := IntWalk.u8_in _ (by omega)
        have HL := hide hlt
        have HK := hide hk
        have HR := hide hgr
        clear hk hgr hlt
        cases hb2 : nameB (k : Int) with
        | true =>
          have HB2 := hide hb2
          have HB1 := hide (word_of_name d _ hb2)
          clear hb2
          go_wp2_with (first | (go_at_call 10; refine (zzWord_is true _ _ _ _ _ _ _ _ _ i0 (by omega) HB1.out).mono ?_; rintro e w5 ⟨rfl, hg5⟩) | (go_at_call 12; refine (zzName_is true _ _ HB2.out).mono ?_; rintro e w6 ⟨rfl, hw6⟩; subst w6))
          go_roundg (gk - 1)
          case rel => exact ⟨k + 1, by have := HK.out; have := HL.out; omega, by rw [ext_f (by rw [HB2.out]; simp)], by go_num, grown_trans HR.out hg5⟩
          case measure => have := HK.out; have := HL.out; omega
        | false =>
          have HB2 := hide hb2
          clear hb2
          cases hb1 : wordB d (k : Int) with
          | false =>
            have HB1 := hide hb1
            clear hb1
            go_wp2_with (first | (go_at_call 10; refine (zzWord_is false _ _ _ _ _ _ _ _ _ i0 (by omega) HB1.out).mono ?_; rintro e w5 ⟨rfl, hg5⟩) | (go_at_call 12; refine (zzName_is false _ _ HB2.out).mono ?_; rintro e w6 ⟨rfl, hw6⟩; subst w6))
            go_roundg (gk - 1)
            case rel => exact ⟨k + 1, by have := HK.out; have := HL.out; omega, by rw [ext_f (by rw [HB1.out]; simp)], by go_num, grown_trans HR.out hg5⟩
            case measure => have := HK.out; have := HL.out; omega
          | true =>
            have HB1 := hide hb1
            clear hb1
            by_cases h128 : ¬ ((k : Int) < 128)
            · have q128 : decide ((k : Int) < 128) = false := by simpa using h128
              clear h128
              go_wp2_with (first | (go_at_call 10; refine (zzWord_is true _ _ _ _ _ _ _ _ _ i0 (by omega) HB1.out).mono ?_; rintro e w5 ⟨rfl, hg5⟩) | (go_at_call 12; refine (zzName_is false _ _ HB2.out).mono ?_; rintro e w6 ⟨rfl, hw6⟩; subst w6))
              go_roundg (gk - 1)
              case rel => exact ⟨k + 1, by have := HK.out; have := HL.out; omega, by rw [ext_t HB1.out HB2.out]; go_num, by go_num, grown_trans HR.out hg5⟩
              case measure => have := HK.out; have := HL.out; omega
            · have e36 := word_low d _ HB1.out HB2.out (by omega)
              obtain rfl : k = 36 := by omega
              have HC1 : Hid (wordB d 36 = true) := HB1.out
              have HC2 : Hid (nameB 36 = false) := HB2.out
              clear e36 h128 iw i0 i1
              go_wp2_with (first | (go_at_call 10; refine (zzWord_is true _ _ _ _ _ _ _ _ _ (by decide) (by decide) HC1.out).mono ?_; rintro e w5 ⟨rfl, hg5⟩) | (go_at_call 12; refine (zzName_is false _ _ HC2.out).mono ?_; rintro e w6 ⟨rfl, hw6⟩; subst w6))
              go_roundg (gk - 1)
              case rel => exact ⟨36 + 1, by have := HK.out; have := HL.out; omega, by rw [ext_t HB1.out HB2.out]; go_num, by go_num, grown_trans HR.out hg5⟩
              case measure => have := HK.out; have := HL.out; omega
      · obtain rfl : k = 256 := by omega
        have HR := hide hgr
        clear hk hgr hc hlt
        cases d
        · rw [ext_off]
          go_wp2
          go_ret
          exact ⟨rfl, HR.out⟩
        · rw [ext_on]
          go_wp2
          go_ret
          exact ⟨rfl, HR.out⟩

set_option maxHeartbeats 1000000 in
/-- no word byte -/
theorem widen_not (x0 x1 x2 d : Bool) (s1 s2 : ByteArray) (x6 : Bool) (c : Int) (w : World) (h0 : 0 ≤ c) (h1 : c ≤ 255) (m1 : s1.size ≤ 524288) (m2 : s2.size ≤ 524288)
    (hg : wordB d c = false) (hn : nameB c = false) (hs : wordB d (c) = false) (k0 : 0 ≤ c) (k1 : c ≤ 255) (p1 : c < 128) (p2 : 122 < c ∨ (90 < c ∧ c < 97) ∨ c < 65) :
    Calls Trym.prog 6 #[.bool x0, .bool x1, .bool x2, .bool d, .string s1, .string s2, .bool x6, .int .u8 c] w fun e w' => e = .returned (.bool true) ∧ Grown w w' := by
    have HG := hide hg
    have HN := hide hn
    have HS := hide hs
    clear hg hn hs
    rcases p2 with q1 | ⟨q1, q2⟩ | q1
    all_goals
      go_enter Trym.func6, Trym.ntmps6
      go_wp2_with (first | (go_at_call 11; refine (bytes11 _ _ _ _ _ _ _ _ _ m1 m2).mono ?_; rintro e w1 ⟨rfl, hw1⟩; subst w1))
      refine (zzWord_is false _ _ _ _ _ _ _ _ _ h0 h1 HG.out).mono ?_
      rintro e w1 ⟨rfl, hg1⟩
      go_wp2_with (first | (go_at_call 12; refine (zzName_is false _ _ HN.out).mono ?_; rintro e w2 ⟨rfl, hw2⟩; subst w2))
      refine (zzWord_is false _ _ _ _ _ _ _ _ _ k0 k1 HS.out).mono ?_
      rintro e w2 ⟨rfl, hg2⟩
      have HR := grown_trans hg1 hg2
      clear hg1 hg2
      go_wp2_with fail
      go_loopg [19, 20] 256 (fun m n i wx => ∃ k : Nat, m + k = 256 ∧ n = .int .i64 (ext d k) ∧ i = .int .i64 k ∧ Grown w wx)
      case atStart => exact ⟨0, rfl, rfl, rfl, HR⟩
      case round =>
        obtain ⟨k, hk, rfl, rfl, hgr⟩ := hrel
        have hc := ext_le d k
        clear HR HG HN HS p1 h0 h1 k0 k1
        by_cases hlt : k < 256
        · have i0 : (0 : Int) ≤ (k : Int) := by omega
          have i1 : (k : Int) < 256 := by omega
          have iw : IntKind.u8.wrap (k : Int) = (k : Int) := IntWalk.u8_in _ (by omega)
          have HL := hide hlt
          have HK := hide hk
          have HR := hide hgr
          clear hk hgr hlt
          cases hb2 : nameB (k : Int) with
          | true =>
            have HB2 := hide hb2
            have HB1 := hide (word_of_name d _ hb2)
            clear hb2
            go_wp2_with (first | (go_at_call 10; refine (zzWord_is true _ _ _ _ _ _ _ _ _ i0 (by omega) HB1.out).mono ?_; rintro e w5 ⟨rfl, hg5⟩) | (go_at_call 12; refine (zzName_is true _ _ HB2.out).mono ?_; rintro e w6 ⟨rfl, hw6⟩; subst w6))
            go_roundg (gk - 1)
            case rel => exact ⟨k + 1, by have := HK.out; have := HL.out; omega, by rw [ext_f (by rw [HB2.out]; simp)], by go_num, grown_trans HR.out hg5⟩
            case measure => have := HK.out; have := HL.out; omega
          | false =>
            have HB2 := hide hb2
            clear hb2
            cases hb1 : wordB d (k : Int) with
            | false =>
              have HB1 := hide hb1
              clear hb1
              go_wp2_with (first | (go_at_call 10; refine (zzWord_is false _ _ _ _ _ _ _ _ _ i0 (by omega) HB1.out).mono ?_; rintro e w5 ⟨rfl, hg5⟩) | (go_at_call 12; refine (zzName_is false _ _ HB2.out).mono ?_; rintro e w6 ⟨rfl, hw6⟩; subst w6))
              go_roundg (gk - 1)
              case rel => exact ⟨k + 1, by have := HK.out; have := HL.out; omega, by rw [ext_f (by rw [HB1.out]; simp)], by go_num, grown_trans HR.out hg5⟩
              case measure => have := HK.out; have := HL.out; omega
            | true =>
              have HB1 := hide hb1
              clear hb1
              by_cases h128 : ¬ ((k : Int) < 128)
              · have q128 : decide ((k : Int) < 128) = false := by simpa using h128
                clear h128
                go_wp2_with (first | (go_at_call 10; refine (zzWord_is true _ _ _ _ _ _ _ _ _ i0 (by omega) HB1.out).mono ?_; rintro e w5 ⟨rfl, hg5⟩) | (go_at_call 12; refine (zzName_is false _ _ HB2.out).mono ?_; rintro e w6 ⟨rfl, hw6⟩; subst w6))
                go_roundg (gk - 1)
                case rel => exact ⟨k + 1, by have := HK.out; have := HL.out; omega, by rw [ext_t HB1.out HB2.out]; go_num, by go_num, grown_trans HR.out hg5⟩
                case measure => have := HK.out; have := HL.out; omega
              · have e36 := word_low d _ HB1.out HB2.out (by omega)
                obtain rfl : k = 36 := by omega
                have HC1 : Hid (wordB d 36 = true) := HB1.out
                have HC2 : Hid (nameB 36 = false) := HB2.out
                clear e36 h128 iw i0 i1
                go_wp2_with (first | (go_at_call 10; refine (zzWord_is true _ _ _ _ _ _ _ _ _ (by decide) (by decide) HC1.out).mono ?_; rintro e w5 ⟨rfl, hg5⟩) | (go_at_call 12; refine (zzName_is false _ _ HC2.out).mono ?_; rintro e w6 ⟨rfl, hw6⟩; subst w6))
                go_roundg (gk - 1)
                case rel => exact ⟨36 + 1, by have := HK.out; have := HL.out; omega, by rw [ext_t HB1.out HB2.out]; go_num, by go_num, grown_trans HR.out hg5⟩
                case measure => have := HK.out; have := HL.out; omega
        · obtain rfl : k = 256 := by omega
          have HR := hide hgr
          clear hk hgr hc hlt
          cases d
          · rw [ext_off]
            go_wp2
            go_ret
            exact ⟨rfl, HR.out⟩
          · rw [ext_on]
            go_wp2
            go_ret
            exact ⟨rfl, HR.out⟩

end Go.Proofs.Qxb6614043aMods.Bytes
