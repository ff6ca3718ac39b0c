/-
  DERIVED. The proof of 'Rows.FnOrElseChainIsAnyAndAllSaid'. The frame is turned from the guide's own shell for a law over slices.
-/
import Derived.Test.Qxb6614043aModsRows
import Derived.Test.Qxb6614043aModsChainWalk
import Derived.WalkKit
import Derived.ProofKit
import Derived.OpenShut
import Derived.ShutString
import Derived.ChangeOld
import Derived.Below
import Derived.Deep.SlicePairs
namespace Go.Proofs.Qxb6614043aMods.fnOrElseChainIsAnyAndAll
open Go.ChangeShapes Go.WideShapes Go.ChangeAt Go.RowKit
open Go.ChangeMaps (open_string shut_string)
set_option linter.unusedVariables false

theorem own : ownKnob Trym.prog.godebug = none := by kernel_rfl
theorem laidOut : laidOutB Trym.prog = true := by kernel_rfl

/-- What the walk is told of the slice of pairs: no element, or a row of 'len' pairs of bools. -/
def IsPairs (w : World) (a : Option Addr) (len : Nat) : Prop :=
  len ≤ maxLen ∧ (len = 0 ∨ ∃ (b off : Nat) (S F : Nat → Bool), a = some ⟨b, off, none⟩ ∧ b < w.heap.size ∧
    (∀ i, i < len → w.cell? ⟨b, off + i * 2, none⟩ = some (.bool (S i))) ∧ (∀ i, i < len → w.cell? ⟨b, off + i * 2 + 1, none⟩ = some (.bool (F i))))

theorem walk (a0 a1 : Bool) (a2 : Option Addr) (len2 cap2 : Nat) (w : World) (w2 : IsPairs w a2 len2) :
    Calls Trym.prog 3 #[.bool a0, .bool a1, .slice a2 len2 cap2] w fun e w' => e = .returned (.bool true) ∧ Below w.heap.size w w' := by
  obtain ⟨hm, rfl | ⟨b, off, S, F, rfl, hb, hS, hF⟩⟩ := w2
  · exact Chain.walk_none a0 a1 a2 cap2 w
  · by_cases hbig : 65536 < len2
    · exact Chain.walk_big a0 a1 _ len2 cap2 w hbig hm
    · by_cases h0 : len2 = 0
      · subst h0; exact Chain.walk_none a0 a1 _ cap2 w
      · exact Chain.walk_some a0 a1 b off len2 cap2 S F w (by omega) (by omega) hb hS hF

set_option maxRecDepth 100000 in
theorem lifted (os : Os) (started : os.Started) (H : Type) (enc : TypeId × Value → H) :
    ReturnsInHanded {} Trym.checked os 3 .any (Rows.fnOrElseChainIsAnyAndAllSpec.pre6 enc Trym.prog Trym.f3 Rows.fnOrElseChainIsAnyAndAllRow.domain false) (Rows.fnOrElseChainIsAnyAndAllSpec.post enc Trym.prog Trym.f3 false true false false) := by
  refine returnsInHanded_of_change (C := Trym.checked) own started (by kernel_rfl) Trym.func3
    (ChangeSpec.witness6 (enc := enc) (C := Trym.checked) false ⟨#[], #[.bool false, .bool false, .slice none 0 0], []⟩ 8 (by kernel_rfl) (by kernel_rfl) (by kernel_rfl) (by kernel_rfl)) ?_
  intro W base args ds gs before hval0 hW hcnd _
  have hval : ∀ (j : Nat) t v, Trym.f3.params[j]? = some t → args[j]? = some v → Value.okWide Trym.prog W .any base t v := hval0
  have hW' := hW
  obtain ⟨p, q, hA0, hV, rfl, hfz, hnd⟩ := hW
  have hA : DataW.TrodAll enc Trym.prog W 0 (fun _ => true) true Trym.f3.params.toList args.toList ds p := hA0
  rw [Trym.params3] at hA hval
  obtain ⟨v0, vs0, d0, ds0, p0, q0, hargs, rfl, rfl, h0, r0⟩ := trodAll_cons hA
  obtain ⟨v1, vs1, d1, ds1, p1, q1, rfl, rfl, rfl, h1, r1⟩ := trodAll_cons r0
  obtain ⟨v2, vs2, d2, ds2, p2, q2, rfl, rfl, rfl, h2, r2⟩ := trodAll_cons r1
  obtain ⟨rfl, rfl, rfl⟩ := trodAll_nil r2
  obtain rfl : args = #[v0, v1, v2] := by cases args; simp_all
  obtain ⟨rfl, rfl⟩ := trodVars_none hV
  obtain ⟨a0, rfl, rfl, rfl⟩ := open_bool Trym.underlying4 (hval 0 4 v0 rfl rfl) h0
  obtain ⟨a1, rfl, rfl, rfl⟩ := open_bool Trym.underlying4 (hval 1 4 v1 rfl rfl) h1
  obtain ⟨a2, len2, cap2, rfl⟩ := okWide_slice Trym.underlying22 (hval 2 22 v2 rfl rfl)
  have k2 := h2
  have lt2 : ∀ x ∈ p2, x.block < W.heap.size := by obtain ⟨m, hm⟩ := k2; exact DataW.trod_lt m _ _ _ hm
  have w2 : IsPairs W a2 len2 := by
    obtain ⟨fuel, hf⟩ := h2
    rcases Deep.open_slice_pairs Trym.underlying22 Trym.underlying25 (by kernel_rfl) rfl rfl (by kernel_rfl) (by kernel_rfl) hf with ⟨hcs, _⟩ | ⟨x, l, c, m, n, V0, V1, D0, D1, P0, P1, hcs, _, hl, hm, hmm, _, hcell⟩
    · simp [Value.cells] at hcs
      obtain ⟨rfl, rfl, rfl⟩ := hcs
      exact ⟨Nat.zero_le _, Or.inl rfl⟩
    · simp [Value.cells] at hcs
      obtain ⟨rfl, rfl, rfl⟩ := hcs
      simp only [if_true] at hmm
      subst hmm
      refine ⟨Nat.le_trans hl hm, ?_⟩
      by_cases hz : len2 = 0
      · exact Or.inl hz
      right
      obtain ⟨b, off, spot⟩ := x
      have hc0 := (hcell 0 (by omega)).1
      have hspot : spot = none := by simpa [Addr.add] using World.cell?_spot hc0
      subst hspot
      have hb : b < W.heap.size := by
        have := World.block_lt_of_cell? W _ hc0
        simpa [Addr.add] using this
      obtain ⟨S, hS⟩ := Deep.choose_lt (n := len2) (p := fun i (s : Bool) => W.cell? ⟨b, off + i * 2, none⟩ = some (.bool s)) (fun i hi => by
        obtain ⟨e0, e1, t0, t1⟩ := hcell i (by omega)
        obtain ⟨s, hs, _⟩ := DataW.trod_bool Trym.underlying4 t0
        simp only [List.cons.injEq, and_true] at hs
        rw [add_plain, hs] at e0
        exact ⟨s, e0⟩)
      obtain ⟨F, hF⟩ := Deep.choose_lt (n := len2) (p := fun i (s : Bool) => W.cell? ⟨b, off + i * 2 + 1, none⟩ = some (.bool s)) (fun i hi => by
        obtain ⟨e0, e1, t0, t1⟩ := hcell i (by omega)
        obtain ⟨s, hs, _⟩ := DataW.trod_bool Trym.underlying4 t1
        simp only [List.cons.injEq, and_true] at hs
        rw [add_plain, hs] at e1
        exact ⟨s, e1⟩)
      exact ⟨b, off, S, F, rfl, hb, hS, hF⟩
  clear hA0 hval0
  refine (walk a0 a1 a2 len2 cap2 W w2).mono fun e W' ⟨he, bel⟩ => ?_
  subst he
  exact ⟨_, rfl, _, _, _, [], _, [], hW', trodAll_mk1 (shut_bool Trym.underlying4 _), (trodAll_cons_mk (shut_bool Trym.underlying4 _) (trodAll_cons_mk (shut_bool Trym.underlying4 _) (trodAll_cons_mk (Below.trod laidOut (by kernel_rfl) (of_decide_eq_true (by kernel_rfl)) k2 bel lt2) trodAll_mk0))), rfl, bel.frame _, fun h => by cases h⟩

theorem over : Rows.fnOrElseChainIsAnyAndAllRow.holds Trym.pinned (OpenSpec.ofChange Rows.fnOrElseChainIsAnyAndAllSpec) :=
  OpenClaim.holds_of_wide 3 Trym.f3 rfl rfl rfl rfl rfl rfl rfl ⟨rfl, rfl, rfl, rfl, rfl⟩ rfl rfl rfl rfl rfl (by kernel_rfl) Trym.func3 (by kernel_rfl)
    (of_decide_eq_true (by kernel_rfl)) (by unfold Func.isWrapper; first | (rw [if_pos (by decide +kernel)]; kernel_rfl) | (rw [if_neg (by decide +kernel)]; exact ⟨rfl, rfl⟩))
    (fun os started H enc _ => lifted os started H enc)

/-- THE STATEMENT -/
theorem proved : Rows.FnOrElseChainIsAnyAndAllSaid := over
#print axioms proved
end Go.Proofs.Qxb6614043aMods.fnOrElseChainIsAnyAndAll
