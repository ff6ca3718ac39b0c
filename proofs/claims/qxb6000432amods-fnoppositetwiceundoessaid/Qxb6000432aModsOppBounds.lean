/-
  DERIVED. FnOppositeTwiceUndoes: the bounds; listEq.
-/
import Derived.Test.Qxb6000432aModsOppCallees
namespace Go.Proofs.Qxb6000432aMods
open Go.RowKit

/-- an answer that, where it is yes, says p -/
def Says (e : Ending) (p : Prop) : Prop := ∃ b : Bool, e = .returned (.bool b) ∧ (b = true → p)
theorem Says.no (p : Prop) : Says (.returned (.bool false)) p := ⟨false, rfl, fun h => by cases h⟩
theorem Says.yes (b : Bool) {p : Prop} (h : p) : Says (.returned (.bool b)) p := ⟨b, rfl, fun _ => h⟩

set_option maxRecDepth 100000 in
set_option maxHeartbeats 1000000 in
theorem bounds_any (o i1 y1 : ByteArray) (k1 : Option Addr) (nk1 ck1 : Nat) (Sk1 : Nat → ByteArray) (t1 : Option Addr) (nt1 ct1 : Nat) (St1 : Nat → ByteArray) (l1 : Option Addr) (nl1 cl1 : Nat) (Sl1 : Nat → ByteArray)
    (i2 y2 : ByteArray) (k2 : Option Addr) (nk2 ck2 : Nat) (Sk2 : Nat → ByteArray) (t2 : Option Addr) (nt2 ct2 : Nat) (St2 : Nat → ByteArray) (l2 : Option Addr) (nl2 cl2 : Nat) (Sl2 : Nat → ByteArray) (w : World)
    (mo : o.size ≤ maxLen) (mi1 : i1.size ≤ maxLen) (my1 : y1.size ≤ maxLen) (hk1 : Strs w k1 nk1 Sk1) (mk1 : nk1 ≤ maxLen) (ht1 : Strs w t1 nt1 St1) (mt1 : nt1 ≤ maxLen) (hl1 : Strs w l1 nl1 Sl1) (ml1 : nl1 ≤ maxLen)
    (mi2 : i2.size ≤ maxLen) (my2 : y2.size ≤ maxLen) (hk2 : Strs w k2 nk2 Sk2) (mk2 : nk2 ≤ maxLen) (ht2 : Strs w t2 nt2 St2) (mt2 : nt2 ≤ maxLen) (hl2 : Strs w l2 nl2 Sl2) (ml2 : nl2 ≤ maxLen) :
    Calls Trym.prog 25 #[.string o, .string i1, .string y1, .slice k1 nk1 ck1, .slice t1 nt1 ct1, .slice l1 nl1 cl1, .string i2, .string y2, .slice k2 nk2 ck2, .slice t2 nt2 ct2, .slice l2 nl2 cl2] w
      fun e w' => Says e (nk1 ≤ 65536 ∧ nt1 ≤ 65536 ∧ nl1 ≤ 65536 ∧ nk2 ≤ 65536 ∧ nt2 ≤ 65536 ∧ nl2 ≤ 65536) ∧ w' = w := by
  have H := hide (And.intro hk1 (And.intro ht1 (And.intro hl1 (And.intro hk2 (And.intro ht2 hl2)))))
  have M := hide (And.intro mo (And.intro mi1 (And.intro my1 (And.intro mi2 my2))))
  have M2 := hide (And.intro mk1 (And.intro mt1 (And.intro ml1 (And.intro mk2 (And.intro mt2 ml2)))))
  clear hk1 ht1 hl1 hk2 ht2 hl2 mo mi1 my1 mi2 my2 mk1 mt1 ml1 mk2 mt2 ml2
  by_cases a1 : 65536 < nk1
  · go_enter Trym.func25, Trym.ntmps25
    go_wp2
    go_ret
    exact ⟨Says.no _, rfl⟩
  by_cases a2 : 65536 < nt1
  · go_enter Trym.func25, Trym.ntmps25
    go_wp2
    go_ret
    exact ⟨Says.no _, rfl⟩
  by_cases a3 : 65536 < nl1
  · go_enter Trym.func25, Trym.ntmps25
    go_wp2
    go_ret
    exact ⟨Says.no _, rfl⟩
  by_cases a4 : 65536 < nk2
  · go_enter Trym.func25, Trym.ntmps25
    go_wp2
    go_ret
    exact ⟨Says.no _, rfl⟩
  by_cases a5 : 65536 < nt2
  · go_enter Trym.func25, Trym.ntmps25
    go_wp2
    go_ret
    exact ⟨Says.no _, rfl⟩
  by_cases a6 : 65536 < nl2
  · go_enter Trym.func25, Trym.ntmps25
    go_wp2
    go_ret
    exact ⟨Says.no _, rfl⟩
  go_enter Trym.func25, Trym.ntmps25
  go_wp2_with fail
  refine (strBytes_any o _ M.out.1).mono ?_
  rintro e w1 ⟨⟨r1, r1a, r1b, rfl⟩, hw⟩
  subst w1
  go_wp2_with fail
  refine (strBytes_any i1 _ M.out.2.1).mono ?_
  rintro e w1 ⟨⟨r2, r2a, r2b, rfl⟩, hw⟩
  subst w1
  go_wp2_with fail
  refine (strBytes_any y1 _ M.out.2.2.1).mono ?_
  rintro e w1 ⟨⟨r3, r3a, r3b, rfl⟩, hw⟩
  subst w1
  go_wp2_with fail
  refine (strBytes_any i2 _ M.out.2.2.2.1).mono ?_
  rintro e w1 ⟨⟨r4, r4a, r4b, rfl⟩, hw⟩
  subst w1
  go_wp2_with fail
  refine (strBytes_any y2 _ M.out.2.2.2.2).mono ?_
  rintro e w1 ⟨⟨r5, r5a, r5b, rfl⟩, hw⟩
  subst w1
  go_wp2_with fail
  refine (strsBytes_any _ _ _ _ _ H.out.1 M2.out.1).mono ?_
  rintro e w1 ⟨⟨s1, s1a, s1b, _, rfl⟩, hw⟩
  subst w1
  go_wp2_with fail
  refine (strsBytes_any _ _ _ _ _ H.out.2.1 M2.out.2.1).mono ?_
  rintro e w1 ⟨⟨s2, s2a, s2b, _, rfl⟩, hw⟩
  subst w1
  go_wp2_with fail
  refine (strsBytes_any _ _ _ _ _ H.out.2.2.1 M2.out.2.2.1).mono ?_
  rintro e w1 ⟨⟨s3, s3a, s3b, _, rfl⟩, hw⟩
  subst w1
  go_wp2_with fail
  refine (strsBytes_any _ _ _ _ _ H.out.2.2.2.1 M2.out.2.2.2.1).mono ?_
  rintro e w1 ⟨⟨s4, s4a, s4b, _, rfl⟩, hw⟩
  subst w1
  go_wp2_with fail
  refine (strsBytes_any _ _ _ _ _ H.out.2.2.2.2.1 M2.out.2.2.2.2.1).mono ?_
  rintro e w1 ⟨⟨s5, s5a, s5b, _, rfl⟩, hw⟩
  subst w1
  go_wp2_with fail
  refine (strsBytes_any _ _ _ _ _ H.out.2.2.2.2.2 M2.out.2.2.2.2.2).mono ?_
  rintro e w1 ⟨⟨s6, s6a, s6b, _, rfl⟩, hw⟩
  subst w1
  go_wp2
  go_ret
  exact ⟨Says.yes _ ⟨by omega, by omega, by omega, by omega, by omega, by omega⟩, rfl⟩

/-- a list against itself -/
theorem eql_nil (a : Option Addr) (n c : Nat) (w : World) : (binOp .eql 22 (.slice a n c) (.slice none 0 0)).run Trym.prog w = .ok (.bool a.isNone) w := Lib.run_eql_slice_nil (P := Trym.prog) w 22 9 a n c 0 0 Trym.underlying22

set_option maxHeartbeats 1000000 in
theorem listEq_any (a : Option Addr) (n c : Nat) (S : Nat → ByteArray) (w : World) (hn : n ≤ 65536) (hS : Strs w a n S) :
    Calls Trym.prog 35 #[.slice a n c, .slice a n c] w fun e w' => e = .returned (.bool true) ∧ ∃ q, w' = w.drewN q := by
  have H := hide hS
  have hnil := eql_nil a n c
  clear hS
  go_enter Trym.func35, Trym.ntmps35
  go_wp2
  go_loopg [5] n (fun q jv wx => ∃ j : Nat, q + j = n ∧ jv = .int .i64 j ∧ ∃ c, wx = w.drewN c)
  case atStart => exact ⟨0, rfl, rfl, 0, rfl⟩
  case round =>
    obtain ⟨j, hj, rfl, q, rfl⟩ := hrel
    by_cases hlt : j < n
    · obtain ⟨b, off, rfl, hb, hc⟩ := H.out (by omega)
      have c0 := hc j hlt
      have j0 : (0 : Int) ≤ (j : Int) := by omega
      have j1 : (j : Int) < (n : Int) := by omega
      have HJ := hide hj
      clear hj hc
      go_wp2
      go_quiet (fail)
      go_wp2
      go_roundg (gk - 1)
      case rel => exact ⟨j + 1, by have := HJ.out; omega, by go_num, q + nq, rfl⟩
      case measure => have := HJ.out; omega
    · go_wp2
      go_ret
      exact ⟨rfl, q, rfl⟩

end Go.Proofs.Qxb6000432aMods
