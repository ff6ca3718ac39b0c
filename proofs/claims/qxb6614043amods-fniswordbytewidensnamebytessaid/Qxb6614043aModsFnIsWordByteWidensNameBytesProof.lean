/-
  DERIVED. The proof of 'Rows.FnIsWordByteWidensNameBytesSaid'; the frame was written by program (proof-skeleton.mjs).
-/
import Derived.Test.Qxb6614043aModsRows
import Derived.Test.Qxb6614043aModsWidenA
import Derived.Test.Qxb6614043aModsWidenB
import Derived.Test.Qxb6614043aModsWidenC
import Derived.WalkKit
import Derived.ProofKit
import Derived.OpenShut
import Derived.ShutString
namespace Go.Proofs.Qxb6614043aMods.fnIsWordByteWidensNameBytes
open Go.ChangeShapes Go.WideShapes Go.ChangeAt Go.RowKit
open Go.ChangeMaps (open_string shut_string)
set_option linter.unusedVariables false      -- a walk need not use every 'w<i>' (that an integer argument fits its kind)

theorem own : ownKnob Trym.prog.godebug = none := by kernel_rfl

/-! ### STEP 1: THE WALK: the Go text returns true. 'Grown w w'': the world has at most new blocks (Derived/RowKit3.lean). Part the cases AHEAD of 'go_enter' where a test parts the walk; take each callee by a contract of your own. -/
theorem walk (a0 : Bool) (a1 : Bool) (a2 : Bool) (a3 : Bool) (a4 : ByteArray) (a5 : ByteArray) (a6 : Bool) (a7 : Int) (w4 : a4.size ≤ maxLen) (w5 : a5.size ≤ maxLen) (w7 : (Lit.int .u8 a7).wf = true) (w : World) :
    Calls Trym.prog 6 #[.bool a0, .bool a1, .bool a2, .bool a3, .string a4, .string a5, .bool a6, .int .u8 a7] w fun e w' => e = .returned (.bool true) ∧ Grown w w' := by
  obtain ⟨h0, h1⟩ := bounds_u8 w7
  by_cases hb : 524288 < a4.size ∨ 524288 < a5.size
  · exact Bytes.widen_big a0 a1 a2 a3 a4 a5 a6 a7 w w4 w5 hb
  have m1 : a4.size ≤ 524288 := by omega
  have m2 : a5.size ≤ 524288 := by omega
  by_cases c1 : 97 ≤ a7 ∧ a7 ≤ 122
  · obtain ⟨n1, n2⟩ := Bytes.name_swap_down a7 c1.1 c1.2
    exact Bytes.widen_low a0 a1 a2 a3 a4 a5 a6 a7 w h0 h1 m1 m2 (Bytes.word_of_name _ _ n1) n1 (Bytes.word_of_name _ _ n2) (by omega) (by omega) c1
  by_cases c2 : 65 ≤ a7 ∧ a7 ≤ 90
  · obtain ⟨n1, n2⟩ := Bytes.name_swap_up a7 c2.1 c2.2
    exact Bytes.widen_up a0 a1 a2 a3 a4 a5 a6 a7 w h0 h1 m1 m2 (Bytes.word_of_name _ _ n1) n1 (Bytes.word_of_name _ _ n2) (by omega) (by omega) c2
  cases hn : Bytes.nameB a7 with
  | true =>
    have hw := Bytes.word_of_name a3 _ hn
    have hr : a7 = 95 ∨ (97 ≤ a7 ∧ a7 ≤ 122) ∨ (65 ≤ a7 ∧ a7 ≤ 90) ∨ (48 ≤ a7 ∧ a7 ≤ 57) := by simpa [Bytes.nameB] using hn
    exact Bytes.widen_name a0 a1 a2 a3 a4 a5 a6 a7 w h0 h1 m1 m2 hw hn hw h0 h1 (by omega)
  | false =>
    by_cases c3 : 128 ≤ a7
    · have hw := Bytes.word_high a3 _ c3
      exact Bytes.widen_high a0 a1 a2 a3 a4 a5 a6 a7 w h0 h1 m1 m2 hw hn hw h0 h1 c3
    · cases hw : Bytes.wordB a3 a7 with
      | true =>
        have e := Bytes.word_low a3 _ hw hn (by omega)
        exact Bytes.widen_dollar a0 a1 a2 a3 a4 a5 a6 a7 w h0 h1 m1 m2 hw hn hw h0 h1 (by omega)
      | false => exact Bytes.widen_not a0 a1 a2 a3 a4 a5 a6 a7 w h0 h1 m1 m2 hw hn hw h0 h1 (by omega) (by omega)

/-! ### THE ROW's STEP: WRITTEN OUT: LEAVE IT -/
set_option maxRecDepth 100000 in
theorem lifted (os : Os) (started : os.Started) (H : Type) (enc : TypeId × Value → H) :
    ReturnsInHanded {} Trym.checked os 6 .any (Rows.fnIsWordByteWidensNameBytesSpec.pre6 enc Trym.prog Trym.f6 Rows.fnIsWordByteWidensNameBytesRow.domain false) (Rows.fnIsWordByteWidensNameBytesSpec.post enc Trym.prog Trym.f6 false true false false) := by
  refine returnsInHanded_of_change (C := Trym.checked) own started (by kernel_rfl) Trym.func6
    (ChangeSpec.witness6 (enc := enc) (C := Trym.checked) false ⟨#[], #[.bool false, .bool false, .bool false, .bool false, .string ByteArray.empty, .string ByteArray.empty, .bool false, .int .u8 0], []⟩ 8 (by kernel_rfl) (by kernel_rfl) (by kernel_rfl) (by kernel_rfl)) ?_
  intro W base args ds gs before hval0 hW hcnd _
  have hval : ∀ (j : Nat) t v, Trym.f6.params[j]? = some t → args[j]? = some v → Value.okWide Trym.prog W .any base t v := hval0
  have hW' := hW
  obtain ⟨p, q, hA0, hV, rfl, hfz, hnd⟩ := hW
  have hA : DataW.TrodAll enc Trym.prog W 0 (fun _ => true) true Trym.f6.params.toList args.toList ds p := hA0
  rw [Trym.params6] at hA hval
  obtain ⟨v0, vs0, d0, ds0, p0, q0, hargs, rfl, rfl, h0, r0⟩ := trodAll_cons hA
  obtain ⟨v1, vs1, d1, ds1, p1, q1, rfl, rfl, rfl, h1, r1⟩ := trodAll_cons r0
  obtain ⟨v2, vs2, d2, ds2, p2, q2, rfl, rfl, rfl, h2, r2⟩ := trodAll_cons r1
  obtain ⟨v3, vs3, d3, ds3, p3, q3, rfl, rfl, rfl, h3, r3⟩ := trodAll_cons r2
  obtain ⟨v4, vs4, d4, ds4, p4, q4, rfl, rfl, rfl, h4, r4⟩ := trodAll_cons r3
  obtain ⟨v5, vs5, d5, ds5, p5, q5, rfl, rfl, rfl, h5, r5⟩ := trodAll_cons r4
  obtain ⟨v6, vs6, d6, ds6, p6, q6, rfl, rfl, rfl, h6, r6⟩ := trodAll_cons r5
  obtain ⟨v7, vs7, d7, ds7, p7, q7, rfl, rfl, rfl, h7, r7⟩ := trodAll_cons r6
  obtain ⟨rfl, rfl, rfl⟩ := trodAll_nil r7
  obtain rfl : args = #[v0, v1, v2, v3, v4, v5, v6, v7] := by cases args; simp_all
  obtain ⟨rfl, rfl⟩ := trodVars_none hV
  obtain ⟨a0, rfl, rfl, rfl⟩ := open_bool Trym.underlying4 (hval 0 4 v0 rfl rfl) h0
  obtain ⟨a1, rfl, rfl, rfl⟩ := open_bool Trym.underlying4 (hval 1 4 v1 rfl rfl) h1
  obtain ⟨a2, rfl, rfl, rfl⟩ := open_bool Trym.underlying4 (hval 2 4 v2 rfl rfl) h2
  obtain ⟨a3, rfl, rfl, rfl⟩ := open_bool Trym.underlying4 (hval 3 4 v3 rfl rfl) h3
  obtain ⟨a4, rfl, rfl, rfl, w4⟩ := open_string Trym.underlying9 (hval 4 9 v4 rfl rfl) h4
  obtain ⟨a5, rfl, rfl, rfl, w5⟩ := open_string Trym.underlying9 (hval 5 9 v5 rfl rfl) h5
  obtain ⟨a6, rfl, rfl, rfl⟩ := open_bool Trym.underlying4 (hval 6 4 v6 rfl rfl) h6
  obtain ⟨a7, rfl, rfl, rfl, w7⟩ := open_int Trym.underlying5 (hval 7 5 v7 rfl rfl) h7
  clear hA0 hval0
  simp only [List.append_nil] at hW'
  refine (walk a0 a1 a2 a3 a4 a5 a6 a7 w4 w5 w7 W).mono fun e W' ⟨he, hg⟩ => ?_
  subst he
  exact ⟨_, rfl, post_of_same (pa := []) (pv := []) hW' (fun _ _ _ => (trodAll_cons_mk (shut_bool Trym.underlying4 _) trodAll_mk0)) (fun sp _ => (trodAll_cons_mk (shut_bool Trym.underlying4 _) (trodAll_cons_mk (shut_bool Trym.underlying4 _) (trodAll_cons_mk (shut_bool Trym.underlying4 _) (trodAll_cons_mk (shut_bool Trym.underlying4 _) (trodAll_cons_mk (shut_string Trym.underlying9 w4) (trodAll_cons_mk (shut_string Trym.underlying9 w5) (trodAll_cons_mk (shut_bool Trym.underlying4 _) (trodAll_cons_mk (shut_int Trym.underlying5 w7) trodAll_mk0))))))))) (fun _ _ => rfl) rfl
    (hg.frame _) hg.2.1 (ok_one (by kernel_rfl) rfl (okWide_bool_mk Trym.underlying4 _))⟩

theorem over : Rows.fnIsWordByteWidensNameBytesRow.holds Trym.pinned (OpenSpec.ofChange Rows.fnIsWordByteWidensNameBytesSpec) :=
  OpenClaim.holds_of_wide 6 Trym.f6 rfl rfl rfl rfl rfl rfl rfl ⟨rfl, rfl, rfl, rfl, rfl⟩ rfl rfl rfl rfl rfl (by kernel_rfl) Trym.func6 (by kernel_rfl)
    (of_decide_eq_true (by kernel_rfl)) (by unfold Func.isWrapper; first | (rw [if_pos (by decide +kernel)]; kernel_rfl) | (rw [if_neg (by decide +kernel)]; exact ⟨rfl, rfl⟩))
    (fun os started H enc _ => lifted os started H enc)

/-- ████ THE STATEMENT ████ -/
theorem proved : Rows.FnIsWordByteWidensNameBytesSaid :=
  over
#print axioms proved
end Go.Proofs.Qxb6614043aMods.fnIsWordByteWidensNameBytes
