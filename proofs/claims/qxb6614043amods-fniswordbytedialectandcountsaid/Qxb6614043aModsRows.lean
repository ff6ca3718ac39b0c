/-
  No cell of these rows narrows 'for every input' (looked for: loops, veiled, ifaces, maps, wideKeys, modest, calm, conditions, laid).
  DERIVED. THE GIVEN ROWS OF THIS SEAT. 4 by the template 'for every input the law returns true; each argument reads behind the call as it read before'; 0 by the template 'total and deterministic' (their statements: Qxb6614043aModsTotals.lean).
  GIVEN WITH THE SEED: the statements are not yours to turn. If you find one false, say at which input.
  Laid BY PROGRAM, IN A SANDBOX (cutbox-rows.mjs): the forced cells as the released guide's own fill.sh prints them over the translation 95523f32d93ca831… (all of the seat's roots in one cut). By AI agents, Wed Nov 11 2026. No macro, syntax, notation, axiom, sorry.
-/
import Derived.Test.Qxb6614043aModsChecked
import GoSem.Claim
import GoSem.ClaimJoined
import GoSem.ClaimMapViews
import Derived.JoinedTies
import Derived.KernelRfl
namespace Go.Proofs.Qxb6614043aMods
/- THE CELL 'sum', in the pinned program and in every row, IS THE sha256 OF THE DUMP (.gsa) THAT Qxb6614043aModsProg.lean LOADS. Nothing in Lean hashes anything: it is a label: what it is worth is what the hold of that sum in a sandbox is worth. -/
noncomputable def Trym.pinned : Pinned := { name := "qxb6614043amods", sum := "95523f32d93ca8313f6c233e98c1511b23b808f0ab34b687e87bdc89a23e1f58", checked := Trym.checked }
namespace Rows
def none {H : Type} : Left H := { results := [], args := [] }

/-- 'zzlaws_internal_classify_b1.FnOrElseChainIsAnyAndAll': WHATEVER THE INPUT: true; the input reads as it did. -/
def fnOrElseChainIsAnyAndAllSpec : ChangeSpec := { name := "fnOrElseChainIsAnyAndAll", fn := fun _ => fun
  | [d1, d2, d3] => { results := [.lit (.bool true)], args := [d1, d2, d3] }
  | _ => none }
def fnOrElseChainIsAnyAndAllRow : OpenClaim := { program := "qxb6614043amods", sum := "95523f32d93ca8313f6c233e98c1511b23b808f0ab34b687e87bdc89a23e1f58", func := "example.com/prudent-hand/prudent-hand/zzlaws_internal_classify_b1.FnOrElseChainIsAnyAndAll", spec := "fnOrElseChainIsAnyAndAll", make := .lifted ["publicsums"], apart := false }
def FnOrElseChainIsAnyAndAllSaid : Prop := fnOrElseChainIsAnyAndAllRow.holds Trym.pinned (OpenSpec.ofChange fnOrElseChainIsAnyAndAllSpec)

/-- ITS FALSE NEIGHBOUR: 'it returns false'. Refute it at one input. -/
def fnOrElseChainIsAnyAndAllWrong : ChangeSpec := { name := "fnOrElseChainIsAnyAndAll", fn := fun _ => fun
  | [d1, d2, d3] => { results := [.lit (.bool false)], args := [d1, d2, d3] }
  | _ => none }
def FnOrElseChainIsAnyAndAllWrongFalsely : Prop := fnOrElseChainIsAnyAndAllRow.holds Trym.pinned (OpenSpec.ofChange fnOrElseChainIsAnyAndAllWrong)

/-- 'zzlaws_internal_classify_b1.FnOrElseAlgebraOfOr': WHATEVER THE INPUT: true; the input reads as it did. -/
def fnOrElseAlgebraOfOrSpec : ChangeSpec := { name := "fnOrElseAlgebraOfOr", fn := fun _ => fun
  | [d1, d2, d3, d4, d5, d6] => { results := [.lit (.bool true)], args := [d1, d2, d3, d4, d5, d6] }
  | _ => none }
def fnOrElseAlgebraOfOrRow : OpenClaim := { program := "qxb6614043amods", sum := "95523f32d93ca8313f6c233e98c1511b23b808f0ab34b687e87bdc89a23e1f58", func := "example.com/prudent-hand/prudent-hand/zzlaws_internal_classify_b1.FnOrElseAlgebraOfOr", spec := "fnOrElseAlgebraOfOr", make := .lifted ["publicsums"], apart := false }
def FnOrElseAlgebraOfOrSaid : Prop := fnOrElseAlgebraOfOrRow.holds Trym.pinned (OpenSpec.ofChange fnOrElseAlgebraOfOrSpec)

/-- ITS FALSE NEIGHBOUR: 'it returns false'. Refute it at one input. -/
def fnOrElseAlgebraOfOrWrong : ChangeSpec := { name := "fnOrElseAlgebraOfOr", fn := fun _ => fun
  | [d1, d2, d3, d4, d5, d6] => { results := [.lit (.bool false)], args := [d1, d2, d3, d4, d5, d6] }
  | _ => none }
def FnOrElseAlgebraOfOrWrongFalsely : Prop := fnOrElseAlgebraOfOrRow.holds Trym.pinned (OpenSpec.ofChange fnOrElseAlgebraOfOrWrong)

/-- 'zzlaws_internal_classify_b1.FnIsWordByteDialectAndCount': WHATEVER THE INPUT: true; the input reads as it did. -/
def fnIsWordByteDialectAndCountSpec : ChangeSpec := { name := "fnIsWordByteDialectAndCount", fn := fun _ => fun
  | [d1, d2, d3, d4, d5, d6, d7, d8] => { results := [.lit (.bool true)], args := [d1, d2, d3, d4, d5, d6, d7, d8] }
  | _ => none }
def fnIsWordByteDialectAndCountRow : OpenClaim := { program := "qxb6614043amods", sum := "95523f32d93ca8313f6c233e98c1511b23b808f0ab34b687e87bdc89a23e1f58", func := "example.com/prudent-hand/prudent-hand/zzlaws_internal_classify_b1.FnIsWordByteDialectAndCount", spec := "fnIsWordByteDialectAndCount", make := .lifted ["publicsums"], apart := false }
def FnIsWordByteDialectAndCountSaid : Prop := fnIsWordByteDialectAndCountRow.holds Trym.pinned (OpenSpec.ofChange fnIsWordByteDialectAndCountSpec)

/-- ITS FALSE NEIGHBOUR: 'it returns false'. Refute it at one input. -/
def fnIsWordByteDialectAndCountWrong : ChangeSpec := { name := "fnIsWordByteDialectAndCount", fn := fun _ => fun
  | [d1, d2, d3, d4, d5, d6, d7, d8] => { results := [.lit (.bool false)], args := [d1, d2, d3, d4, d5, d6, d7, d8] }
  | _ => none }
def FnIsWordByteDialectAndCountWrongFalsely : Prop := fnIsWordByteDialectAndCountRow.holds Trym.pinned (OpenSpec.ofChange fnIsWordByteDialectAndCountWrong)

/-- 'zzlaws_internal_classify_b1.FnIsWordByteWidensNameBytes': WHATEVER THE INPUT: true; the input reads as it did. -/
def fnIsWordByteWidensNameBytesSpec : ChangeSpec := { name := "fnIsWordByteWidensNameBytes", fn := fun _ => fun
  | [d1, d2, d3, d4, d5, d6, d7, d8] => { results := [.lit (.bool true)], args := [d1, d2, d3, d4, d5, d6, d7, d8] }
  | _ => none }
def fnIsWordByteWidensNameBytesRow : OpenClaim := { program := "qxb6614043amods", sum := "95523f32d93ca8313f6c233e98c1511b23b808f0ab34b687e87bdc89a23e1f58", func := "example.com/prudent-hand/prudent-hand/zzlaws_internal_classify_b1.FnIsWordByteWidensNameBytes", spec := "fnIsWordByteWidensNameBytes", make := .lifted ["publicsums"], apart := false }
def FnIsWordByteWidensNameBytesSaid : Prop := fnIsWordByteWidensNameBytesRow.holds Trym.pinned (OpenSpec.ofChange fnIsWordByteWidensNameBytesSpec)

/-- ITS FALSE NEIGHBOUR: 'it returns false'. Refute it at one input. -/
def fnIsWordByteWidensNameBytesWrong : ChangeSpec := { name := "fnIsWordByteWidensNameBytes", fn := fun _ => fun
  | [d1, d2, d3, d4, d5, d6, d7, d8] => { results := [.lit (.bool false)], args := [d1, d2, d3, d4, d5, d6, d7, d8] }
  | _ => none }
def FnIsWordByteWidensNameBytesWrongFalsely : Prop := fnIsWordByteWidensNameBytesRow.holds Trym.pinned (OpenSpec.ofChange fnIsWordByteWidensNameBytesWrong)

end Rows
end Go.Proofs.Qxb6614043aMods
