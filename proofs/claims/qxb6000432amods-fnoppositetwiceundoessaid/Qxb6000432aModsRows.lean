/-
  No cell of these rows narrows 'for every input' (looked for: loops, veiled, ifaces, maps, wideKeys, modest, calm, conditions, laid).
  DERIVED. THE GIVEN ROWS OF THIS SEAT. 7 by the template 'for every input the law returns true; each argument reads behind the call as it read before'; 0 by the template 'total and deterministic' (their statements: Qxb6000432aModsTotals.lean).
  GIVEN WITH THE SEED: the statements are not yours to turn. If you find one false, say at which input.
  Laid BY PROGRAM, IN A SANDBOX (cutbox-rows.mjs): the forced cells as the released guide's own fill.sh prints them over the translation 19e5662db85735cb… (all of the seat's roots in one cut). By AI agents, Wed Nov 11 2026. No macro, syntax, notation, axiom, sorry.
-/
import Derived.Test.Qxb6000432aModsChecked
import GoSem.Claim
import GoSem.ClaimJoined
import GoSem.ClaimMapViews
import Derived.JoinedTies
import Derived.KernelRfl
namespace Go.Proofs.Qxb6000432aMods
/- THE CELL 'sum', in the pinned program and in every row, IS THE sha256 OF THE DUMP (.gsa) THAT Qxb6000432aModsProg.lean LOADS. Nothing in Lean hashes anything: it is a label: what it is worth is what the hold of that sum in a sandbox is worth. -/
noncomputable def Trym.pinned : Pinned := { name := "qxb6000432amods", sum := "19e5662db85735cb76e44b5995909a6760a1f94f765a78695c5f6694cb9c807c", checked := Trym.checked }
namespace Rows
def none {H : Type} : Left H := { results := [], args := [] }

/-- 'zzlaws_internal_deploy_b1.FnFirstNotDoneSpec': WHATEVER THE INPUT: true; the input reads as it did. -/
def fnFirstNotDoneSpecSpec : ChangeSpec := { name := "fnFirstNotDoneSpec", fn := fun _ => fun
  | [d] => { results := [.lit (.bool true)], args := [d] }
  | _ => none }
def fnFirstNotDoneSpecRow : OpenClaim := { program := "qxb6000432amods", sum := "19e5662db85735cb76e44b5995909a6760a1f94f765a78695c5f6694cb9c807c", func := "example.com/quaymaster/quaymaster/zzlaws_internal_deploy_b1.FnFirstNotDoneSpec", spec := "fnFirstNotDoneSpec", make := .lifted ["publicsums"], apart := false }
def FnFirstNotDoneSpecSaid : Prop := fnFirstNotDoneSpecRow.holds Trym.pinned (OpenSpec.ofChange fnFirstNotDoneSpecSpec)

/-- ITS FALSE NEIGHBOUR: 'it returns false'. Refute it at one input. -/
def fnFirstNotDoneSpecWrong : ChangeSpec := { name := "fnFirstNotDoneSpec", fn := fun _ => fun
  | [d] => { results := [.lit (.bool false)], args := [d] }
  | _ => none }
def FnFirstNotDoneSpecWrongFalsely : Prop := fnFirstNotDoneSpecRow.holds Trym.pinned (OpenSpec.ofChange fnFirstNotDoneSpecWrong)

/-- 'zzlaws_internal_deploy_b1.FnFirstNotDoneConcat': WHATEVER THE INPUT: true; the input reads as it did. -/
def fnFirstNotDoneConcatSpec : ChangeSpec := { name := "fnFirstNotDoneConcat", fn := fun _ => fun
  | [d1, d2] => { results := [.lit (.bool true)], args := [d1, d2] }
  | _ => none }
def fnFirstNotDoneConcatRow : OpenClaim := { program := "qxb6000432amods", sum := "19e5662db85735cb76e44b5995909a6760a1f94f765a78695c5f6694cb9c807c", func := "example.com/quaymaster/quaymaster/zzlaws_internal_deploy_b1.FnFirstNotDoneConcat", spec := "fnFirstNotDoneConcat", make := .lifted ["publicsums"], apart := false }
def FnFirstNotDoneConcatSaid : Prop := fnFirstNotDoneConcatRow.holds Trym.pinned (OpenSpec.ofChange fnFirstNotDoneConcatSpec)

/-- ITS FALSE NEIGHBOUR: 'it returns false'. Refute it at one input. -/
def fnFirstNotDoneConcatWrong : ChangeSpec := { name := "fnFirstNotDoneConcat", fn := fun _ => fun
  | [d1, d2] => { results := [.lit (.bool false)], args := [d1, d2] }
  | _ => none }
def FnFirstNotDoneConcatWrongFalsely : Prop := fnFirstNotDoneConcatRow.holds Trym.pinned (OpenSpec.ofChange fnFirstNotDoneConcatWrong)

/-- 'zzlaws_internal_deploy_b1.FnFirstNotDoneMonotone': WHATEVER THE INPUT: true; the input reads as it did. -/
def fnFirstNotDoneMonotoneSpec : ChangeSpec := { name := "fnFirstNotDoneMonotone", fn := fun _ => fun
  | [d1, d2] => { results := [.lit (.bool true)], args := [d1, d2] }
  | _ => none }
def fnFirstNotDoneMonotoneRow : OpenClaim := { program := "qxb6000432amods", sum := "19e5662db85735cb76e44b5995909a6760a1f94f765a78695c5f6694cb9c807c", func := "example.com/quaymaster/quaymaster/zzlaws_internal_deploy_b1.FnFirstNotDoneMonotone", spec := "fnFirstNotDoneMonotone", make := .lifted ["publicsums"], apart := false }
def FnFirstNotDoneMonotoneSaid : Prop := fnFirstNotDoneMonotoneRow.holds Trym.pinned (OpenSpec.ofChange fnFirstNotDoneMonotoneSpec)

/-- ITS FALSE NEIGHBOUR: 'it returns false'. Refute it at one input. -/
def fnFirstNotDoneMonotoneWrong : ChangeSpec := { name := "fnFirstNotDoneMonotone", fn := fun _ => fun
  | [d1, d2] => { results := [.lit (.bool false)], args := [d1, d2] }
  | _ => none }
def FnFirstNotDoneMonotoneWrongFalsely : Prop := fnFirstNotDoneMonotoneRow.holds Trym.pinned (OpenSpec.ofChange fnFirstNotDoneMonotoneWrong)

/-- 'zzlaws_internal_deploy_b1.FnRanStepsPartition': WHATEVER THE INPUT: true; the input reads as it did. -/
def fnRanStepsPartitionSpec : ChangeSpec := { name := "fnRanStepsPartition", fn := fun _ => fun
  | [d1, d2] => { results := [.lit (.bool true)], args := [d1, d2] }
  | _ => none }
def fnRanStepsPartitionRow : OpenClaim := { program := "qxb6000432amods", sum := "19e5662db85735cb76e44b5995909a6760a1f94f765a78695c5f6694cb9c807c", func := "example.com/quaymaster/quaymaster/zzlaws_internal_deploy_b1.FnRanStepsPartition", spec := "fnRanStepsPartition", make := .lifted ["publicsums"], apart := false }
def FnRanStepsPartitionSaid : Prop := fnRanStepsPartitionRow.holds Trym.pinned (OpenSpec.ofChange fnRanStepsPartitionSpec)

/-- ITS FALSE NEIGHBOUR: 'it returns false'. Refute it at one input. -/
def fnRanStepsPartitionWrong : ChangeSpec := { name := "fnRanStepsPartition", fn := fun _ => fun
  | [d1, d2] => { results := [.lit (.bool false)], args := [d1, d2] }
  | _ => none }
def FnRanStepsPartitionWrongFalsely : Prop := fnRanStepsPartitionRow.holds Trym.pinned (OpenSpec.ofChange fnRanStepsPartitionWrong)

/-- 'zzlaws_internal_deploy_b1.FnRanStepsAppendOne': WHATEVER THE INPUT: true; the input reads as it did. -/
def fnRanStepsAppendOneSpec : ChangeSpec := { name := "fnRanStepsAppendOne", fn := fun _ => fun
  | [d1, d2, d3, d4] => { results := [.lit (.bool true)], args := [d1, d2, d3, d4] }
  | _ => none }
def fnRanStepsAppendOneRow : OpenClaim := { program := "qxb6000432amods", sum := "19e5662db85735cb76e44b5995909a6760a1f94f765a78695c5f6694cb9c807c", func := "example.com/quaymaster/quaymaster/zzlaws_internal_deploy_b1.FnRanStepsAppendOne", spec := "fnRanStepsAppendOne", make := .lifted ["publicsums"], apart := false }
def FnRanStepsAppendOneSaid : Prop := fnRanStepsAppendOneRow.holds Trym.pinned (OpenSpec.ofChange fnRanStepsAppendOneSpec)

/-- ITS FALSE NEIGHBOUR: 'it returns false'. Refute it at one input. -/
def fnRanStepsAppendOneWrong : ChangeSpec := { name := "fnRanStepsAppendOne", fn := fun _ => fun
  | [d1, d2, d3, d4] => { results := [.lit (.bool false)], args := [d1, d2, d3, d4] }
  | _ => none }
def FnRanStepsAppendOneWrongFalsely : Prop := fnRanStepsAppendOneRow.holds Trym.pinned (OpenSpec.ofChange fnRanStepsAppendOneWrong)

/-- 'zzlaws_internal_deploy_b1.FnOppositeTwiceUndoes': WHATEVER THE INPUT: true; the input reads as it did. -/
def fnOppositeTwiceUndoesSpec : ChangeSpec := { name := "fnOppositeTwiceUndoes", fn := fun _ => fun
  | [d1, d2, d3, d4, d5, d6, d7, d8, d9, d10, d11] => { results := [.lit (.bool true)], args := [d1, d2, d3, d4, d5, d6, d7, d8, d9, d10, d11] }
  | _ => none }
def fnOppositeTwiceUndoesRow : OpenClaim := { program := "qxb6000432amods", sum := "19e5662db85735cb76e44b5995909a6760a1f94f765a78695c5f6694cb9c807c", func := "example.com/quaymaster/quaymaster/zzlaws_internal_deploy_b1.FnOppositeTwiceUndoes", spec := "fnOppositeTwiceUndoes", make := .lifted ["publicsums"], apart := false }
def FnOppositeTwiceUndoesSaid : Prop := fnOppositeTwiceUndoesRow.holds Trym.pinned (OpenSpec.ofChange fnOppositeTwiceUndoesSpec)

/-- ITS FALSE NEIGHBOUR: 'it returns false'. Refute it at one input. -/
def fnOppositeTwiceUndoesWrong : ChangeSpec := { name := "fnOppositeTwiceUndoes", fn := fun _ => fun
  | [d1, d2, d3, d4, d5, d6, d7, d8, d9, d10, d11] => { results := [.lit (.bool false)], args := [d1, d2, d3, d4, d5, d6, d7, d8, d9, d10, d11] }
  | _ => none }
def FnOppositeTwiceUndoesWrongFalsely : Prop := fnOppositeTwiceUndoesRow.holds Trym.pinned (OpenSpec.ofChange fnOppositeTwiceUndoesWrong)

/-- 'zzlaws_internal_deploy_b1.FnOppositeThriceIsOnce': WHATEVER THE INPUT: true; the input reads as it did. -/
def fnOppositeThriceIsOnceSpec : ChangeSpec := { name := "fnOppositeThriceIsOnce", fn := fun _ => fun
  | [d1, d2, d3, d4, d5, d6, d7, d8, d9, d10, d11] => { results := [.lit (.bool true)], args := [d1, d2, d3, d4, d5, d6, d7, d8, d9, d10, d11] }
  | _ => none }
def fnOppositeThriceIsOnceRow : OpenClaim := { program := "qxb6000432amods", sum := "19e5662db85735cb76e44b5995909a6760a1f94f765a78695c5f6694cb9c807c", func := "example.com/quaymaster/quaymaster/zzlaws_internal_deploy_b1.FnOppositeThriceIsOnce", spec := "fnOppositeThriceIsOnce", make := .lifted ["publicsums"], apart := false }
def FnOppositeThriceIsOnceSaid : Prop := fnOppositeThriceIsOnceRow.holds Trym.pinned (OpenSpec.ofChange fnOppositeThriceIsOnceSpec)

/-- ITS FALSE NEIGHBOUR: 'it returns false'. Refute it at one input. -/
def fnOppositeThriceIsOnceWrong : ChangeSpec := { name := "fnOppositeThriceIsOnce", fn := fun _ => fun
  | [d1, d2, d3, d4, d5, d6, d7, d8, d9, d10, d11] => { results := [.lit (.bool false)], args := [d1, d2, d3, d4, d5, d6, d7, d8, d9, d10, d11] }
  | _ => none }
def FnOppositeThriceIsOnceWrongFalsely : Prop := fnOppositeThriceIsOnceRow.holds Trym.pinned (OpenSpec.ofChange fnOppositeThriceIsOnceWrong)

end Rows
end Go.Proofs.Qxb6000432aMods
