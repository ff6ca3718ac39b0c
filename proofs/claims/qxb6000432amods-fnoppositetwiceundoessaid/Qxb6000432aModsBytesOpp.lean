/-
  DERIVED. 'zzBytes' of FnOppositeTwiceUndoes.
-/
import Derived.Test.Qxb6000432aModsBytes
namespace Go.Proofs.Qxb6000432aMods
open Go.RowKit

set_option maxRecDepth 100000 in
set_option maxHeartbeats 4000000 in
/-- 'zzBytes' (24): it answers, and touches nothing. -/
theorem bytes24 (o : ByteArray) (i1 : ByteArray) (y1 : ByteArray) (k1 : Option Addr) (nk1 ck1 : Nat) (Sk1 : Nat → ByteArray) (t1 : Option Addr) (nt1 ct1 : Nat) (St1 : Nat → ByteArray) (l1 : Option Addr) (nl1 cl1 : Nat) (Sl1 : Nat → ByteArray) (i2 : ByteArray) (y2 : ByteArray) (k2 : Option Addr) (nk2 ck2 : Nat) (Sk2 : Nat → ByteArray) (t2 : Option Addr) (nt2 ct2 : Nat) (St2 : Nat → ByteArray) (l2 : Option Addr) (nl2 cl2 : Nat) (Sl2 : Nat → ByteArray) (w : World) (mo : o.size ≤ maxLen) (mi1 : i1.size ≤ maxLen) (my1 : y1.size ≤ maxLen) (hk1 : Strs w k1 nk1 Sk1) (mk1 : nk1 ≤ maxLen) (ht1 : Strs w t1 nt1 St1) (mt1 : nt1 ≤ maxLen) (hl1 : Strs w l1 nl1 Sl1) (ml1 : nl1 ≤ maxLen) (mi2 : i2.size ≤ maxLen) (my2 : y2.size ≤ maxLen) (hk2 : Strs w k2 nk2 Sk2) (mk2 : nk2 ≤ maxLen) (ht2 : Strs w t2 nt2 St2) (mt2 : nt2 ≤ maxLen) (hl2 : Strs w l2 nl2 Sl2) (ml2 : nl2 ≤ maxLen) :
    Calls Trym.prog 24 #[.string o, .string i1, .string y1, .slice k1 nk1 ck1, .slice t1 nt1 ct1, .slice l1 nl1 cl1, .string i2, .string y2, .slice k2 nk2 ck2, .slice t2 nt2 ct2, .slice l2 nl2 cl2] w fun e w' => Answers e ∧ w' = w := by
  unfold maxLen at *
  have Hk1 := hide hk1
  clear hk1
  have Ht1 := hide ht1
  clear ht1
  have Hl1 := hide hl1
  clear hl1
  have Hk2 := hide hk2
  clear hk2
  have Ht2 := hide ht2
  clear ht2
  have Hl2 := hide hl2
  clear hl2
  by_cases d0_o : (1048576 : Int) < (o.size : Int)
  · go_enter Trym.func24, Trym.ntmps24
    go_wp2
    go_ret
    exact ⟨Answers.mk _, rfl⟩
  by_cases d1_i1 : (1048576 : Int) < (i1.size : Int)
  · go_enter Trym.func24, Trym.ntmps24
    go_wp2
    go_ret
    exact ⟨Answers.mk _, rfl⟩
  by_cases d2_i1 : (1048576 : Int) < (o.size : Int) + (i1.size : Int)
  · go_enter Trym.func24, Trym.ntmps24
    go_wp2
    go_ret
    exact ⟨Answers.mk _, rfl⟩
  by_cases d3_y1 : (1048576 : Int) < (y1.size : Int)
  · go_enter Trym.func24, Trym.ntmps24
    go_wp2
    go_ret
    exact ⟨Answers.mk _, rfl⟩
  by_cases d4_y1 : (1048576 : Int) < (o.size : Int) + (i1.size : Int) + (y1.size : Int)
  · go_enter Trym.func24, Trym.ntmps24
    go_wp2
    go_ret
    exact ⟨Answers.mk _, rfl⟩
  by_cases d5_k1 : (1048576 : Int) < (nk1 : Int)
  · go_enter Trym.func24, Trym.ntmps24
    go_wp2
    go_ret
    exact ⟨Answers.mk _, rfl⟩
  by_cases d6_k1 : (1048576 : Int) < (o.size : Int) + (i1.size : Int) + (y1.size : Int) + (nk1 : Int)
  · go_enter Trym.func24, Trym.ntmps24
    go_wp2
    go_ret
    exact ⟨Answers.mk _, rfl⟩
  go_enter Trym.func24, Trym.ntmps24
  go_wp2
  go_loopg [23, 24] nk1 (fun m s i wx => ∃ (k : Nat) (q : Int), m + k = nk1 ∧ 0 ≤ q ∧ q ≤ 1048576 ∧ s = .int .i64 q ∧ i = .int .i64 k ∧ wx = w)
  case atStart => exact ⟨0, (o.size : Int) + (i1.size : Int) + (y1.size : Int) + (nk1 : Int), rfl, by omega, by omega, rfl, rfl, rfl⟩
  case round =>
    obtain ⟨kk1, qk1, hkk1, q0k1, q1k1, rfl, rfl, hwr⟩ := hrel
    subst wr
    clear d0_o d1_i1 d2_i1 d3_y1 d4_y1 d5_k1 d6_k1
    by_cases hlt : kk1 < nk1
    · obtain ⟨b, off, rfl, hb, hc⟩ := Hk1.out (by omega)
      have c0 := hc kk1 hlt
      have HK := hide hkk1
      clear hc hkk1
      by_cases h1 : 1048576 < (Sk1 kk1).size
      · go_wp2
        go_ret
        exact ⟨Answers.mk _, rfl⟩
      · by_cases h2 : 1048576 < qk1 + (Sk1 kk1).size
        · go_wp2
          go_ret
          exact ⟨Answers.mk _, rfl⟩
        · go_wp2
          go_roundg (gk - 1)
          case rel => exact ⟨kk1 + 1, qk1 + (Sk1 kk1).size, by have := HK.out; omega, by omega, by omega, rfl, by go_num, rfl⟩
          case measure => have := HK.out; omega
    clear hkk1
    by_cases d0_t1 : (1048576 : Int) < (nt1 : Int)
    · go_wp2
      go_ret
      exact ⟨Answers.mk _, rfl⟩
    by_cases d1_t1 : (1048576 : Int) < qk1 + (nt1 : Int)
    · go_wp2
      go_ret
      exact ⟨Answers.mk _, rfl⟩
    go_wp2
    go_loopg [23, 25] nt1 (fun m s i wx => ∃ (k : Nat) (q : Int), m + k = nt1 ∧ 0 ≤ q ∧ q ≤ 1048576 ∧ s = .int .i64 q ∧ i = .int .i64 k ∧ wx = w)
    case atStart => exact ⟨0, qk1 + (nt1 : Int), rfl, by omega, by omega, rfl, rfl, rfl⟩
    case round =>
      obtain ⟨kt1, qt1, hkt1, q0t1, q1t1, rfl, rfl, hwr⟩ := hrel
      subst wr
      clear d0_t1 d1_t1
      by_cases hlt : kt1 < nt1
      · obtain ⟨b, off, rfl, hb, hc⟩ := Ht1.out (by omega)
        have c0 := hc kt1 hlt
        have HK := hide hkt1
        clear hc hkt1
        by_cases h1 : 1048576 < (St1 kt1).size
        · go_wp2
          go_ret
          exact ⟨Answers.mk _, rfl⟩
        · by_cases h2 : 1048576 < qt1 + (St1 kt1).size
          · go_wp2
            go_ret
            exact ⟨Answers.mk _, rfl⟩
          · go_wp2
            go_roundg (gk - 1)
            case rel => exact ⟨kt1 + 1, qt1 + (St1 kt1).size, by have := HK.out; omega, by omega, by omega, rfl, by go_num, rfl⟩
            case measure => have := HK.out; omega
      clear hkt1
      by_cases d0_l1 : (1048576 : Int) < (nl1 : Int)
      · go_wp2
        go_ret
        exact ⟨Answers.mk _, rfl⟩
      by_cases d1_l1 : (1048576 : Int) < qt1 + (nl1 : Int)
      · go_wp2
        go_ret
        exact ⟨Answers.mk _, rfl⟩
      go_wp2
      go_loopg [23, 26] nl1 (fun m s i wx => ∃ (k : Nat) (q : Int), m + k = nl1 ∧ 0 ≤ q ∧ q ≤ 1048576 ∧ s = .int .i64 q ∧ i = .int .i64 k ∧ wx = w)
      case atStart => exact ⟨0, qt1 + (nl1 : Int), rfl, by omega, by omega, rfl, rfl, rfl⟩
      case round =>
        obtain ⟨kl1, ql1, hkl1, q0l1, q1l1, rfl, rfl, hwr⟩ := hrel
        subst wr
        clear d0_l1 d1_l1
        by_cases hlt : kl1 < nl1
        · obtain ⟨b, off, rfl, hb, hc⟩ := Hl1.out (by omega)
          have c0 := hc kl1 hlt
          have HK := hide hkl1
          clear hc hkl1
          by_cases h1 : 1048576 < (Sl1 kl1).size
          · go_wp2
            go_ret
            exact ⟨Answers.mk _, rfl⟩
          · by_cases h2 : 1048576 < ql1 + (Sl1 kl1).size
            · go_wp2
              go_ret
              exact ⟨Answers.mk _, rfl⟩
            · go_wp2
              go_roundg (gk - 1)
              case rel => exact ⟨kl1 + 1, ql1 + (Sl1 kl1).size, by have := HK.out; omega, by omega, by omega, rfl, by go_num, rfl⟩
              case measure => have := HK.out; omega
        clear hkl1
        by_cases d0_i2 : (1048576 : Int) < (i2.size : Int)
        · go_wp2
          go_ret
          exact ⟨Answers.mk _, rfl⟩
        by_cases d1_i2 : (1048576 : Int) < ql1 + (i2.size : Int)
        · go_wp2
          go_ret
          exact ⟨Answers.mk _, rfl⟩
        by_cases d2_y2 : (1048576 : Int) < (y2.size : Int)
        · go_wp2
          go_ret
          exact ⟨Answers.mk _, rfl⟩
        by_cases d3_y2 : (1048576 : Int) < ql1 + (i2.size : Int) + (y2.size : Int)
        · go_wp2
          go_ret
          exact ⟨Answers.mk _, rfl⟩
        by_cases d4_k2 : (1048576 : Int) < (nk2 : Int)
        · go_wp2
          go_ret
          exact ⟨Answers.mk _, rfl⟩
        by_cases d5_k2 : (1048576 : Int) < ql1 + (i2.size : Int) + (y2.size : Int) + (nk2 : Int)
        · go_wp2
          go_ret
          exact ⟨Answers.mk _, rfl⟩
        go_wp2
        go_loopg [23, 27] nk2 (fun m s i wx => ∃ (k : Nat) (q : Int), m + k = nk2 ∧ 0 ≤ q ∧ q ≤ 1048576 ∧ s = .int .i64 q ∧ i = .int .i64 k ∧ wx = w)
        case atStart => exact ⟨0, ql1 + (i2.size : Int) + (y2.size : Int) + (nk2 : Int), rfl, by omega, by omega, rfl, rfl, rfl⟩
        case round =>
          obtain ⟨kk2, qk2, hkk2, q0k2, q1k2, rfl, rfl, hwr⟩ := hrel
          subst wr
          clear d0_i2 d1_i2 d2_y2 d3_y2 d4_k2 d5_k2
          by_cases hlt : kk2 < nk2
          · obtain ⟨b, off, rfl, hb, hc⟩ := Hk2.out (by omega)
            have c0 := hc kk2 hlt
            have HK := hide hkk2
            clear hc hkk2
            by_cases h1 : 1048576 < (Sk2 kk2).size
            · go_wp2
              go_ret
              exact ⟨Answers.mk _, rfl⟩
            · by_cases h2 : 1048576 < qk2 + (Sk2 kk2).size
              · go_wp2
                go_ret
                exact ⟨Answers.mk _, rfl⟩
              · go_wp2
                go_roundg (gk - 1)
                case rel => exact ⟨kk2 + 1, qk2 + (Sk2 kk2).size, by have := HK.out; omega, by omega, by omega, rfl, by go_num, rfl⟩
                case measure => have := HK.out; omega
          clear hkk2
          by_cases d0_t2 : (1048576 : Int) < (nt2 : Int)
          · go_wp2
            go_ret
            exact ⟨Answers.mk _, rfl⟩
          by_cases d1_t2 : (1048576 : Int) < qk2 + (nt2 : Int)
          · go_wp2
            go_ret
            exact ⟨Answers.mk _, rfl⟩
          go_wp2
          go_loopg [23, 28] nt2 (fun m s i wx => ∃ (k : Nat) (q : Int), m + k = nt2 ∧ 0 ≤ q ∧ q ≤ 1048576 ∧ s = .int .i64 q ∧ i = .int .i64 k ∧ wx = w)
          case atStart => exact ⟨0, qk2 + (nt2 : Int), rfl, by omega, by omega, rfl, rfl, rfl⟩
          case round =>
            obtain ⟨kt2, qt2, hkt2, q0t2, q1t2, rfl, rfl, hwr⟩ := hrel
            subst wr
            clear d0_t2 d1_t2
            by_cases hlt : kt2 < nt2
            · obtain ⟨b, off, rfl, hb, hc⟩ := Ht2.out (by omega)
              have c0 := hc kt2 hlt
              have HK := hide hkt2
              clear hc hkt2
              by_cases h1 : 1048576 < (St2 kt2).size
              · go_wp2
                go_ret
                exact ⟨Answers.mk _, rfl⟩
              · by_cases h2 : 1048576 < qt2 + (St2 kt2).size
                · go_wp2
                  go_ret
                  exact ⟨Answers.mk _, rfl⟩
                · go_wp2
                  go_roundg (gk - 1)
                  case rel => exact ⟨kt2 + 1, qt2 + (St2 kt2).size, by have := HK.out; omega, by omega, by omega, rfl, by go_num, rfl⟩
                  case measure => have := HK.out; omega
            clear hkt2
            by_cases d0_l2 : (1048576 : Int) < (nl2 : Int)
            · go_wp2
              go_ret
              exact ⟨Answers.mk _, rfl⟩
            by_cases d1_l2 : (1048576 : Int) < qt2 + (nl2 : Int)
            · go_wp2
              go_ret
              exact ⟨Answers.mk _, rfl⟩
            go_wp2
            go_loopg [23, 29] nl2 (fun m s i wx => ∃ (k : Nat) (q : Int), m + k = nl2 ∧ 0 ≤ q ∧ q ≤ 1048576 ∧ s = .int .i64 q ∧ i = .int .i64 k ∧ wx = w)
            case atStart => exact ⟨0, qt2 + (nl2 : Int), rfl, by omega, by omega, rfl, rfl, rfl⟩
            case round =>
              obtain ⟨kl2, ql2, hkl2, q0l2, q1l2, rfl, rfl, hwr⟩ := hrel
              subst wr
              clear d0_l2 d1_l2
              by_cases hlt : kl2 < nl2
              · obtain ⟨b, off, rfl, hb, hc⟩ := Hl2.out (by omega)
                have c0 := hc kl2 hlt
                have HK := hide hkl2
                clear hc hkl2
                by_cases h1 : 1048576 < (Sl2 kl2).size
                · go_wp2
                  go_ret
                  exact ⟨Answers.mk _, rfl⟩
                · by_cases h2 : 1048576 < ql2 + (Sl2 kl2).size
                  · go_wp2
                    go_ret
                    exact ⟨Answers.mk _, rfl⟩
                  · go_wp2
                    go_roundg (gk - 1)
                    case rel => exact ⟨kl2 + 1, ql2 + (Sl2 kl2).size, by have := HK.out; omega, by omega, by omega, rfl, by go_num, rfl⟩
                    case measure => have := HK.out; omega
              clear hkl2
              go_wp2
              go_ret
              exact ⟨Answers.mk _, rfl⟩

end Go.Proofs.Qxb6000432aMods
