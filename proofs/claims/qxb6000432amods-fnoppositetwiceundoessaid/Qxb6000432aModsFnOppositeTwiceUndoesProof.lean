/-
  DERIVED. The proof of 'Rows.FnOppositeTwiceUndoesSaid'. The frame is turned from the guide's own shell for a law over slices.
-/
import Derived.Test.Qxb6000432aModsRows
import Derived.Test.Qxb6000432aModsOppWalk
import Derived.WalkKit
import Derived.ProofKit
import Derived.OpenShut
import Derived.ShutString
import Derived.ChangeOld
import Derived.Below
import Derived.SliceStrings
namespace Go.Proofs.Qxb6000432aMods.fnOppositeTwiceUndoes
open Go.ChangeShapes Go.WideShapes Go.ChangeAt Go.RowKit
open Go.ChangeMaps (open_string shut_string)
set_option linter.unusedVariables false

theorem own : ownKnob Trym.prog.godebug = none := by kernel_rfl
theorem laidOut : laidOutB Trym.prog = true := by kernel_rfl

set_option maxRecDepth 100000 in
theorem lifted (os : Os) (started : os.Started) (H : Type) (enc : TypeId × Value → H) :
    ReturnsInHanded {} Trym.checked os 8 .any (Rows.fnOppositeTwiceUndoesSpec.pre6 enc Trym.prog Trym.f8 Rows.fnOppositeTwiceUndoesRow.domain false) (Rows.fnOppositeTwiceUndoesSpec.post enc Trym.prog Trym.f8 false true false false) := by
  refine returnsInHanded_of_change (C := Trym.checked) own started (by kernel_rfl) Trym.func8
    (ChangeSpec.witness6 (enc := enc) (C := Trym.checked) false ⟨#[], #[.string ByteArray.empty, .string ByteArray.empty, .string ByteArray.empty, .slice none 0 0, .slice none 0 0, .slice none 0 0, .string ByteArray.empty, .string ByteArray.empty, .slice none 0 0, .slice none 0 0, .slice none 0 0], []⟩ 8 (by kernel_rfl) (by kernel_rfl) (by kernel_rfl) (by kernel_rfl)) ?_
  intro W base args ds gs before hval0 hW hcnd _
  have hval : ∀ (j : Nat) t v, Trym.f8.params[j]? = some t → args[j]? = some v → Value.okWide Trym.prog W .any base t v := hval0
  have hW' := hW
  obtain ⟨p, q, hA0, hV, rfl, hfz, hnd⟩ := hW
  have hA : DataW.TrodAll enc Trym.prog W 0 (fun _ => true) true Trym.f8.params.toList args.toList ds p := hA0
  rw [Trym.params8] at hA hval
  obtain ⟨v0, vs0, d0, ds0, p0, q0, hargs, rfl, rfl, h0, r0⟩ := trodAll_cons hA
  obtain ⟨v1, vs1, d1, ds1, p1, q1, rfl, rfl, rfl, h1, r1⟩ := trodAll_cons r0
  obtain ⟨v2, vs2, d2, ds2, p2, q2, rfl, rfl, rfl, h2, r2⟩ := trodAll_cons r1
  obtain ⟨v3, vs3, d3, ds3, p3, q3, rfl, rfl, rfl, h3, r3⟩ := trodAll_cons r2
  obtain ⟨v4, vs4, d4, ds4, p4, q4, rfl, rfl, rfl, h4, r4⟩ := trodAll_cons r3
  obtain ⟨v5, vs5, d5, ds5, p5, q5, rfl, rfl, rfl, h5, r5⟩ := trodAll_cons r4
  obtain ⟨v6, vs6, d6, ds6, p6, q6, rfl, rfl, rfl, h6, r6⟩ := trodAll_cons r5
  obtain ⟨v7, vs7, d7, ds7, p7, q7, rfl, rfl, rfl, h7, r7⟩ := trodAll_cons r6
  obtain ⟨v8, vs8, d8, ds8, p8, q8, rfl, rfl, rfl, h8, r8⟩ := trodAll_cons r7
  obtain ⟨v9, vs9, d9, ds9, p9, q9, rfl, rfl, rfl, h9, r9⟩ := trodAll_cons r8
  obtain ⟨v10, vs10, d10, ds10, p10, q10, rfl, rfl, rfl, h10, r10⟩ := trodAll_cons r9
  obtain ⟨rfl, rfl, rfl⟩ := trodAll_nil r10
  obtain rfl : args = #[v0, v1, v2, v3, v4, v5, v6, v7, v8, v9, v10] := by cases args; simp_all
  obtain ⟨rfl, rfl⟩ := trodVars_none hV
  obtain ⟨a0, rfl, rfl, rfl, w0⟩ := open_string Trym.underlying9 (hval 0 9 v0 rfl rfl) h0
  obtain ⟨a1, rfl, rfl, rfl, w1⟩ := open_string Trym.underlying9 (hval 1 9 v1 rfl rfl) h1
  obtain ⟨a2, rfl, rfl, rfl, w2⟩ := open_string Trym.underlying9 (hval 2 9 v2 rfl rfl) h2
  obtain ⟨a3, len3, cap3, rfl⟩ := okWide_slice Trym.underlying22 (hval 3 22 v3 rfl rfl)
  have k3 := h3
  have lt3 : ∀ x ∈ p3, x.block < W.heap.size := by obtain ⟨m, hm⟩ := k3; exact DataW.trod_lt m _ _ _ hm
  obtain ⟨S3, w3, m3, z3, s3⟩ : ∃ S, Strs W a3 len3 S ∧ len3 ≤ maxLen ∧ (a3 = none → len3 = 0 ∧ cap3 = 0) ∧ ∀ i, (S i).size ≤ maxLen := by
    obtain ⟨fuel, hf⟩ := h3
    rcases open_strings Trym.underlying22 Trym.underlying9 (by kernel_rfl) hf with ⟨hcs, _⟩ | ⟨x, l, c, ss, hcs, _, hl, hm, hz, _, hcell, hsz⟩
    · simp [Value.cells] at hcs
      obtain ⟨rfl, rfl, rfl⟩ := hcs
      exact ⟨fun _ => ByteArray.empty, fun h => absurd h (Nat.lt_irrefl _), Nat.zero_le _, fun _ => ⟨rfl, rfl⟩, fun _ => Nat.zero_le _⟩
    · simp [Value.cells] at hcs
      obtain ⟨rfl, rfl, rfl⟩ := hcs
      simp only [if_true] at hz
      refine ⟨fun i => ss.getD i ByteArray.empty, fun h0 => ?_, Nat.le_trans hl hm, fun h => (by cases h), fun i => ?_⟩
      rotate_left
      · show (ss.getD i ByteArray.empty).size ≤ maxLen
        rw [List.getD_eq_getElem?_getD]
        cases hg : ss[i]? with
        | none => exact Nat.zero_le _
        | some x => exact hsz x (List.mem_of_getElem? hg)
      obtain ⟨b, off, spot⟩ := x
      have hc0 := hcell 0 (by omega)
      have hspot : spot = none := by simpa [Addr.add] using World.cell?_spot hc0
      subst hspot
      have hb : b < W.heap.size := by
        have := World.block_lt_of_cell? W _ hc0
        simpa [Addr.add] using this
      refine ⟨b, off, rfl, hb, fun i hi => ?_⟩
      have := hcell i (by omega)
      rw [add_plain] at this
      exact this
  obtain ⟨a4, len4, cap4, rfl⟩ := okWide_slice Trym.underlying22 (hval 4 22 v4 rfl rfl)
  have k4 := h4
  have lt4 : ∀ x ∈ p4, x.block < W.heap.size := by obtain ⟨m, hm⟩ := k4; exact DataW.trod_lt m _ _ _ hm
  obtain ⟨S4, w4, m4, z4, s4⟩ : ∃ S, Strs W a4 len4 S ∧ len4 ≤ maxLen ∧ (a4 = none → len4 = 0 ∧ cap4 = 0) ∧ ∀ i, (S i).size ≤ maxLen := by
    obtain ⟨fuel, hf⟩ := h4
    rcases open_strings Trym.underlying22 Trym.underlying9 (by kernel_rfl) hf with ⟨hcs, _⟩ | ⟨x, l, c, ss, hcs, _, hl, hm, hz, _, hcell, hsz⟩
    · simp [Value.cells] at hcs
      obtain ⟨rfl, rfl, rfl⟩ := hcs
      exact ⟨fun _ => ByteArray.empty, fun h => absurd h (Nat.lt_irrefl _), Nat.zero_le _, fun _ => ⟨rfl, rfl⟩, fun _ => Nat.zero_le _⟩
    · simp [Value.cells] at hcs
      obtain ⟨rfl, rfl, rfl⟩ := hcs
      simp only [if_true] at hz
      refine ⟨fun i => ss.getD i ByteArray.empty, fun h0 => ?_, Nat.le_trans hl hm, fun h => (by cases h), fun i => ?_⟩
      rotate_left
      · show (ss.getD i ByteArray.empty).size ≤ maxLen
        rw [List.getD_eq_getElem?_getD]
        cases hg : ss[i]? with
        | none => exact Nat.zero_le _
        | some x => exact hsz x (List.mem_of_getElem? hg)
      obtain ⟨b, off, spot⟩ := x
      have hc0 := hcell 0 (by omega)
      have hspot : spot = none := by simpa [Addr.add] using World.cell?_spot hc0
      subst hspot
      have hb : b < W.heap.size := by
        have := World.block_lt_of_cell? W _ hc0
        simpa [Addr.add] using this
      refine ⟨b, off, rfl, hb, fun i hi => ?_⟩
      have := hcell i (by omega)
      rw [add_plain] at this
      exact this
  obtain ⟨a5, len5, cap5, rfl⟩ := okWide_slice Trym.underlying22 (hval 5 22 v5 rfl rfl)
  have k5 := h5
  have lt5 : ∀ x ∈ p5, x.block < W.heap.size := by obtain ⟨m, hm⟩ := k5; exact DataW.trod_lt m _ _ _ hm
  obtain ⟨S5, w5, m5, z5, s5⟩ : ∃ S, Strs W a5 len5 S ∧ len5 ≤ maxLen ∧ (a5 = none → len5 = 0 ∧ cap5 = 0) ∧ ∀ i, (S i).size ≤ maxLen := by
    obtain ⟨fuel, hf⟩ := h5
    rcases open_strings Trym.underlying22 Trym.underlying9 (by kernel_rfl) hf with ⟨hcs, _⟩ | ⟨x, l, c, ss, hcs, _, hl, hm, hz, _, hcell, hsz⟩
    · simp [Value.cells] at hcs
      obtain ⟨rfl, rfl, rfl⟩ := hcs
      exact ⟨fun _ => ByteArray.empty, fun h => absurd h (Nat.lt_irrefl _), Nat.zero_le _, fun _ => ⟨rfl, rfl⟩, fun _ => Nat.zero_le _⟩
    · simp [Value.cells] at hcs
      obtain ⟨rfl, rfl, rfl⟩ := hcs
      simp only [if_true] at hz
      refine ⟨fun i => ss.getD i ByteArray.empty, fun h0 => ?_, Nat.le_trans hl hm, fun h => (by cases h), fun i => ?_⟩
      rotate_left
      · show (ss.getD i ByteArray.empty).size ≤ maxLen
        rw [List.getD_eq_getElem?_getD]
        cases hg : ss[i]? with
        | none => exact Nat.zero_le _
        | some x => exact hsz x (List.mem_of_getElem? hg)
      obtain ⟨b, off, spot⟩ := x
      have hc0 := hcell 0 (by omega)
      have hspot : spot = none := by simpa [Addr.add] using World.cell?_spot hc0
      subst hspot
      have hb : b < W.heap.size := by
        have := World.block_lt_of_cell? W _ hc0
        simpa [Addr.add] using this
      refine ⟨b, off, rfl, hb, fun i hi => ?_⟩
      have := hcell i (by omega)
      rw [add_plain] at this
      exact this
  obtain ⟨a6, rfl, rfl, rfl, w6⟩ := open_string Trym.underlying9 (hval 6 9 v6 rfl rfl) h6
  obtain ⟨a7, rfl, rfl, rfl, w7⟩ := open_string Trym.underlying9 (hval 7 9 v7 rfl rfl) h7
  obtain ⟨a8, len8, cap8, rfl⟩ := okWide_slice Trym.underlying22 (hval 8 22 v8 rfl rfl)
  have k8 := h8
  have lt8 : ∀ x ∈ p8, x.block < W.heap.size := by obtain ⟨m, hm⟩ := k8; exact DataW.trod_lt m _ _ _ hm
  obtain ⟨S8, w8, m8, z8, s8⟩ : ∃ S, Strs W a8 len8 S ∧ len8 ≤ maxLen ∧ (a8 = none → len8 = 0 ∧ cap8 = 0) ∧ ∀ i, (S i).size ≤ maxLen := by
    obtain ⟨fuel, hf⟩ := h8
    rcases open_strings Trym.underlying22 Trym.underlying9 (by kernel_rfl) hf with ⟨hcs, _⟩ | ⟨x, l, c, ss, hcs, _, hl, hm, hz, _, hcell, hsz⟩
    · simp [Value.cells] at hcs
      obtain ⟨rfl, rfl, rfl⟩ := hcs
      exact ⟨fun _ => ByteArray.empty, fun h => absurd h (Nat.lt_irrefl _), Nat.zero_le _, fun _ => ⟨rfl, rfl⟩, fun _ => Nat.zero_le _⟩
    · simp [Value.cells] at hcs
      obtain ⟨rfl, rfl, rfl⟩ := hcs
      simp only [if_true] at hz
      refine ⟨fun i => ss.getD i ByteArray.empty, fun h0 => ?_, Nat.le_trans hl hm, fun h => (by cases h), fun i => ?_⟩
      rotate_left
      · show (ss.getD i ByteArray.empty).size ≤ maxLen
        rw [List.getD_eq_getElem?_getD]
        cases hg : ss[i]? with
        | none => exact Nat.zero_le _
        | some x => exact hsz x (List.mem_of_getElem? hg)
      obtain ⟨b, off, spot⟩ := x
      have hc0 := hcell 0 (by omega)
      have hspot : spot = none := by simpa [Addr.add] using World.cell?_spot hc0
      subst hspot
      have hb : b < W.heap.size := by
        have := World.block_lt_of_cell? W _ hc0
        simpa [Addr.add] using this
      refine ⟨b, off, rfl, hb, fun i hi => ?_⟩
      have := hcell i (by omega)
      rw [add_plain] at this
      exact this
  obtain ⟨a9, len9, cap9, rfl⟩ := okWide_slice Trym.underlying22 (hval 9 22 v9 rfl rfl)
  have k9 := h9
  have lt9 : ∀ x ∈ p9, x.block < W.heap.size := by obtain ⟨m, hm⟩ := k9; exact DataW.trod_lt m _ _ _ hm
  obtain ⟨S9, w9, m9, z9, s9⟩ : ∃ S, Strs W a9 len9 S ∧ len9 ≤ maxLen ∧ (a9 = none → len9 = 0 ∧ cap9 = 0) ∧ ∀ i, (S i).size ≤ maxLen := by
    obtain ⟨fuel, hf⟩ := h9
    rcases open_strings Trym.underlying22 Trym.underlying9 (by kernel_rfl) hf with ⟨hcs, _⟩ | ⟨x, l, c, ss, hcs, _, hl, hm, hz, _, hcell, hsz⟩
    · simp [Value.cells] at hcs
      obtain ⟨rfl, rfl, rfl⟩ := hcs
      exact ⟨fun _ => ByteArray.empty, fun h => absurd h (Nat.lt_irrefl _), Nat.zero_le _, fun _ => ⟨rfl, rfl⟩, fun _ => Nat.zero_le _⟩
    · simp [Value.cells] at hcs
      obtain ⟨rfl, rfl, rfl⟩ := hcs
      simp only [if_true] at hz
      refine ⟨fun i => ss.getD i ByteArray.empty, fun h0 => ?_, Nat.le_trans hl hm, fun h => (by cases h), fun i => ?_⟩
      rotate_left
      · show (ss.getD i ByteArray.empty).size ≤ maxLen
        rw [List.getD_eq_getElem?_getD]
        cases hg : ss[i]? with
        | none => exact Nat.zero_le _
        | some x => exact hsz x (List.mem_of_getElem? hg)
      obtain ⟨b, off, spot⟩ := x
      have hc0 := hcell 0 (by omega)
      have hspot : spot = none := by simpa [Addr.add] using World.cell?_spot hc0
      subst hspot
      have hb : b < W.heap.size := by
        have := World.block_lt_of_cell? W _ hc0
        simpa [Addr.add] using this
      refine ⟨b, off, rfl, hb, fun i hi => ?_⟩
      have := hcell i (by omega)
      rw [add_plain] at this
      exact this
  obtain ⟨a10, len10, cap10, rfl⟩ := okWide_slice Trym.underlying22 (hval 10 22 v10 rfl rfl)
  have k10 := h10
  have lt10 : ∀ x ∈ p10, x.block < W.heap.size := by obtain ⟨m, hm⟩ := k10; exact DataW.trod_lt m _ _ _ hm
  obtain ⟨S10, w10, m10, z10, s10⟩ : ∃ S, Strs W a10 len10 S ∧ len10 ≤ maxLen ∧ (a10 = none → len10 = 0 ∧ cap10 = 0) ∧ ∀ i, (S i).size ≤ maxLen := by
    obtain ⟨fuel, hf⟩ := h10
    rcases open_strings Trym.underlying22 Trym.underlying9 (by kernel_rfl) hf with ⟨hcs, _⟩ | ⟨x, l, c, ss, hcs, _, hl, hm, hz, _, hcell, hsz⟩
    · simp [Value.cells] at hcs
      obtain ⟨rfl, rfl, rfl⟩ := hcs
      exact ⟨fun _ => ByteArray.empty, fun h => absurd h (Nat.lt_irrefl _), Nat.zero_le _, fun _ => ⟨rfl, rfl⟩, fun _ => Nat.zero_le _⟩
    · simp [Value.cells] at hcs
      obtain ⟨rfl, rfl, rfl⟩ := hcs
      simp only [if_true] at hz
      refine ⟨fun i => ss.getD i ByteArray.empty, fun h0 => ?_, Nat.le_trans hl hm, fun h => (by cases h), fun i => ?_⟩
      rotate_left
      · show (ss.getD i ByteArray.empty).size ≤ maxLen
        rw [List.getD_eq_getElem?_getD]
        cases hg : ss[i]? with
        | none => exact Nat.zero_le _
        | some x => exact hsz x (List.mem_of_getElem? hg)
      obtain ⟨b, off, spot⟩ := x
      have hc0 := hcell 0 (by omega)
      have hspot : spot = none := by simpa [Addr.add] using World.cell?_spot hc0
      subst hspot
      have hb : b < W.heap.size := by
        have := World.block_lt_of_cell? W _ hc0
        simpa [Addr.add] using this
      refine ⟨b, off, rfl, hb, fun i hi => ?_⟩
      have := hcell i (by omega)
      rw [add_plain] at this
      exact this
  clear hA0 hval0
  refine (opp_any a0 a1 a2 a3 len3 cap3 S3 a4 len4 cap4 S4 a5 len5 cap5 S5 a6 a7 a8 len8 cap8 S8 a9 len9 cap9 S9 a10 len10 cap10 S10 W w0 w1 w2 w3 m3 z3 s3 w4 m4 z4 s4 w5 m5 z5 s5 w6 w7 w8 m8 z8 s8 w9 m9 z9 s9 w10 m10 z10 s10).mono fun e W' ⟨he, bel⟩ => ?_
  subst he
  exact ⟨_, rfl, _, _, _, [], _, [], hW', trodAll_mk1 (shut_bool Trym.underlying4 _), (trodAll_cons_mk (shut_string Trym.underlying9 w0) (trodAll_cons_mk (shut_string Trym.underlying9 w1) (trodAll_cons_mk (shut_string Trym.underlying9 w2) (trodAll_cons_mk (Below.trod laidOut (by kernel_rfl) (of_decide_eq_true (by kernel_rfl)) k3 bel lt3) (trodAll_cons_mk (Below.trod laidOut (by kernel_rfl) (of_decide_eq_true (by kernel_rfl)) k4 bel lt4) (trodAll_cons_mk (Below.trod laidOut (by kernel_rfl) (of_decide_eq_true (by kernel_rfl)) k5 bel lt5) (trodAll_cons_mk (shut_string Trym.underlying9 w6) (trodAll_cons_mk (shut_string Trym.underlying9 w7) (trodAll_cons_mk (Below.trod laidOut (by kernel_rfl) (of_decide_eq_true (by kernel_rfl)) k8 bel lt8) (trodAll_cons_mk (Below.trod laidOut (by kernel_rfl) (of_decide_eq_true (by kernel_rfl)) k9 bel lt9) (trodAll_cons_mk (Below.trod laidOut (by kernel_rfl) (of_decide_eq_true (by kernel_rfl)) k10 bel lt10) trodAll_mk0))))))))))), rfl, bel.frame _, fun h => by cases h⟩

theorem over : Rows.fnOppositeTwiceUndoesRow.holds Trym.pinned (OpenSpec.ofChange Rows.fnOppositeTwiceUndoesSpec) :=
  OpenClaim.holds_of_wide 8 Trym.f8 rfl rfl rfl rfl rfl rfl rfl ⟨rfl, rfl, rfl, rfl, rfl⟩ rfl rfl rfl rfl rfl (by kernel_rfl) Trym.func8 (by kernel_rfl)
    (of_decide_eq_true (by kernel_rfl)) (by unfold Func.isWrapper; first | (rw [if_pos (by decide +kernel)]; kernel_rfl) | (rw [if_neg (by decide +kernel)]; exact ⟨rfl, rfl⟩))
    (fun os started H enc _ => lifted os started H enc)

/-- THE STATEMENT -/
theorem proved : Rows.FnOppositeTwiceUndoesSaid := over
#print axioms proved
end Go.Proofs.Qxb6000432aMods.fnOppositeTwiceUndoes
