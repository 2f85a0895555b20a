/-
  No cell of these rows narrows 'for every input' (looked for: loops, veiled, ifaces, maps, wideKeys, modest, calm, conditions, laid).
  DERIVED. THE GIVEN ROWS OF THIS SEAT. 6 by the template 'for every input the law returns true; each argument reads behind the call as it read before'; 0 by the template 'total and deterministic' (their statements: Qxb6001832aModsTotals.lean).
  GIVEN WITH THE SEED: the statements are not yours to turn. If you find one false, say at which input.
  Laid BY PROGRAM, IN A SANDBOX (cutbox-rows.mjs): the forced cells as the released guide's own fill.sh prints them over the translation 5e7a877e545ea6fb… (all of the seat's roots in one cut). By AI agents, Wed Nov 11 2026. No macro, syntax, notation, axiom, sorry.
-/
import Derived.Test.Qxb6001832aModsChecked
import GoSem.Claim
import GoSem.ClaimJoined
import GoSem.ClaimMapViews
import Derived.JoinedTies
import Derived.KernelRfl
namespace Go.Proofs.Qxb6001832aMods
/- THE CELL 'sum', in the pinned program and in every row, IS THE sha256 OF THE DUMP (.gsa) THAT Qxb6001832aModsProg.lean LOADS. Nothing in Lean hashes anything: it is a label: what it is worth is what the hold of that sum in a sandbox is worth. -/
noncomputable def Trym.pinned : Pinned := { name := "qxb6001832amods", sum := "5e7a877e545ea6fb46cc907d84bd281d6b6c1fa5f883d456797236b336a42193", checked := Trym.checked }
namespace Rows
def none {H : Type} : Left H := { results := [], args := [] }

/-- 'zzlaws_sqldb_b1.FnFuncTakesInclusionChain': WHATEVER THE INPUT: true; the input reads as it did. -/
def fnFuncTakesInclusionChainSpec : ChangeSpec := { name := "fnFuncTakesInclusionChain", fn := fun _ => fun
  | [d] => { results := [.lit (.bool true)], args := [d] }
  | _ => none }
def fnFuncTakesInclusionChainRow : OpenClaim := { program := "qxb6001832amods", sum := "5e7a877e545ea6fb46cc907d84bd281d6b6c1fa5f883d456797236b336a42193", func := "example.com/shapewire/shapewire/zzlaws_sqldb_b1.FnFuncTakesInclusionChain", spec := "fnFuncTakesInclusionChain", make := .lifted ["publicsums"], apart := false }
def FnFuncTakesInclusionChainSaid : Prop := fnFuncTakesInclusionChainRow.holds Trym.pinned (OpenSpec.ofChange fnFuncTakesInclusionChainSpec)

/-- ITS FALSE NEIGHBOUR: 'it returns false'. Refute it at one input. -/
def fnFuncTakesInclusionChainWrong : ChangeSpec := { name := "fnFuncTakesInclusionChain", fn := fun _ => fun
  | [d] => { results := [.lit (.bool false)], args := [d] }
  | _ => none }
def FnFuncTakesInclusionChainWrongFalsely : Prop := fnFuncTakesInclusionChainRow.holds Trym.pinned (OpenSpec.ofChange fnFuncTakesInclusionChainWrong)

/-- 'zzlaws_sqldb_b1.FnFuncTakesOnlyKnownAggregates': WHATEVER THE INPUT: true; the input reads as it did. -/
def fnFuncTakesOnlyKnownAggregatesSpec : ChangeSpec := { name := "fnFuncTakesOnlyKnownAggregates", fn := fun _ => fun
  | [d1, d2] => { results := [.lit (.bool true)], args := [d1, d2] }
  | _ => none }
def fnFuncTakesOnlyKnownAggregatesRow : OpenClaim := { program := "qxb6001832amods", sum := "5e7a877e545ea6fb46cc907d84bd281d6b6c1fa5f883d456797236b336a42193", func := "example.com/shapewire/shapewire/zzlaws_sqldb_b1.FnFuncTakesOnlyKnownAggregates", spec := "fnFuncTakesOnlyKnownAggregates", make := .lifted ["publicsums"], apart := false }
def FnFuncTakesOnlyKnownAggregatesSaid : Prop := fnFuncTakesOnlyKnownAggregatesRow.holds Trym.pinned (OpenSpec.ofChange fnFuncTakesOnlyKnownAggregatesSpec)

/-- ITS FALSE NEIGHBOUR: 'it returns false'. Refute it at one input. -/
def fnFuncTakesOnlyKnownAggregatesWrong : ChangeSpec := { name := "fnFuncTakesOnlyKnownAggregates", fn := fun _ => fun
  | [d1, d2] => { results := [.lit (.bool false)], args := [d1, d2] }
  | _ => none }
def FnFuncTakesOnlyKnownAggregatesWrongFalsely : Prop := fnFuncTakesOnlyKnownAggregatesRow.holds Trym.pinned (OpenSpec.ofChange fnFuncTakesOnlyKnownAggregatesWrong)

/-- 'zzlaws_sqldb_b1.FnFuncTakesAgreesWithKindTakes': WHATEVER THE INPUT: true; the input reads as it did. -/
def fnFuncTakesAgreesWithKindTakesSpec : ChangeSpec := { name := "fnFuncTakesAgreesWithKindTakes", fn := fun _ => fun
  | [d] => { results := [.lit (.bool true)], args := [d] }
  | _ => none }
def fnFuncTakesAgreesWithKindTakesRow : OpenClaim := { program := "qxb6001832amods", sum := "5e7a877e545ea6fb46cc907d84bd281d6b6c1fa5f883d456797236b336a42193", func := "example.com/shapewire/shapewire/zzlaws_sqldb_b1.FnFuncTakesAgreesWithKindTakes", spec := "fnFuncTakesAgreesWithKindTakes", make := .lifted ["publicsums"], apart := false }
def FnFuncTakesAgreesWithKindTakesSaid : Prop := fnFuncTakesAgreesWithKindTakesRow.holds Trym.pinned (OpenSpec.ofChange fnFuncTakesAgreesWithKindTakesSpec)

/-- ITS FALSE NEIGHBOUR: 'it returns false'. Refute it at one input. -/
def fnFuncTakesAgreesWithKindTakesWrong : ChangeSpec := { name := "fnFuncTakesAgreesWithKindTakes", fn := fun _ => fun
  | [d] => { results := [.lit (.bool false)], args := [d] }
  | _ => none }
def FnFuncTakesAgreesWithKindTakesWrongFalsely : Prop := fnFuncTakesAgreesWithKindTakesRow.holds Trym.pinned (OpenSpec.ofChange fnFuncTakesAgreesWithKindTakesWrong)

/-- 'zzlaws_sqldb_b1.FnUtf8mb4BytesByteLimitOnlyForUtf8mb4': WHATEVER THE INPUT: true; the input reads as it did. -/
def fnUtf8mb4BytesByteLimitOnlyForUtf8mb4Spec : ChangeSpec := { name := "fnUtf8mb4BytesByteLimitOnlyForUtf8mb4", fn := fun _ => fun
  | [d1, d2, d3, d4] => { results := [.lit (.bool true)], args := [d1, d2, d3, d4] }
  | _ => none }
def fnUtf8mb4BytesByteLimitOnlyForUtf8mb4Row : OpenClaim := { program := "qxb6001832amods", sum := "5e7a877e545ea6fb46cc907d84bd281d6b6c1fa5f883d456797236b336a42193", func := "example.com/shapewire/shapewire/zzlaws_sqldb_b1.FnUtf8mb4BytesByteLimitOnlyForUtf8mb4", spec := "fnUtf8mb4BytesByteLimitOnlyForUtf8mb4", make := .lifted ["publicsums"], apart := false }
def FnUtf8mb4BytesByteLimitOnlyForUtf8mb4Said : Prop := fnUtf8mb4BytesByteLimitOnlyForUtf8mb4Row.holds Trym.pinned (OpenSpec.ofChange fnUtf8mb4BytesByteLimitOnlyForUtf8mb4Spec)

/-- ITS FALSE NEIGHBOUR: 'it returns false'. Refute it at one input. -/
def fnUtf8mb4BytesByteLimitOnlyForUtf8mb4Wrong : ChangeSpec := { name := "fnUtf8mb4BytesByteLimitOnlyForUtf8mb4", fn := fun _ => fun
  | [d1, d2, d3, d4] => { results := [.lit (.bool false)], args := [d1, d2, d3, d4] }
  | _ => none }
def FnUtf8mb4BytesByteLimitOnlyForUtf8mb4WrongFalsely : Prop := fnUtf8mb4BytesByteLimitOnlyForUtf8mb4Row.holds Trym.pinned (OpenSpec.ofChange fnUtf8mb4BytesByteLimitOnlyForUtf8mb4Wrong)

/-- 'zzlaws_sqldb_b1.FnUtf8mb4BytesPositiveAndMonotone': WHATEVER THE INPUT: true; the input reads as it did. -/
def fnUtf8mb4BytesPositiveAndMonotoneSpec : ChangeSpec := { name := "fnUtf8mb4BytesPositiveAndMonotone", fn := fun _ => fun
  | [d1, d2, d3, d4] => { results := [.lit (.bool true)], args := [d1, d2, d3, d4] }
  | _ => none }
def fnUtf8mb4BytesPositiveAndMonotoneRow : OpenClaim := { program := "qxb6001832amods", sum := "5e7a877e545ea6fb46cc907d84bd281d6b6c1fa5f883d456797236b336a42193", func := "example.com/shapewire/shapewire/zzlaws_sqldb_b1.FnUtf8mb4BytesPositiveAndMonotone", spec := "fnUtf8mb4BytesPositiveAndMonotone", make := .lifted ["publicsums"], apart := false }
def FnUtf8mb4BytesPositiveAndMonotoneSaid : Prop := fnUtf8mb4BytesPositiveAndMonotoneRow.holds Trym.pinned (OpenSpec.ofChange fnUtf8mb4BytesPositiveAndMonotoneSpec)

/-- ITS FALSE NEIGHBOUR: 'it returns false'. Refute it at one input. -/
def fnUtf8mb4BytesPositiveAndMonotoneWrong : ChangeSpec := { name := "fnUtf8mb4BytesPositiveAndMonotone", fn := fun _ => fun
  | [d1, d2, d3, d4] => { results := [.lit (.bool false)], args := [d1, d2, d3, d4] }
  | _ => none }
def FnUtf8mb4BytesPositiveAndMonotoneWrongFalsely : Prop := fnUtf8mb4BytesPositiveAndMonotoneRow.holds Trym.pinned (OpenSpec.ofChange fnUtf8mb4BytesPositiveAndMonotoneWrong)

/-- 'zzlaws_sqldb_b1.FnUtf8mb4BytesNoLimitIsTheCeiling': WHATEVER THE INPUT: true; the input reads as it did. -/
def fnUtf8mb4BytesNoLimitIsTheCeilingSpec : ChangeSpec := { name := "fnUtf8mb4BytesNoLimitIsTheCeiling", fn := fun _ => fun
  | [d1, d2, d3] => { results := [.lit (.bool true)], args := [d1, d2, d3] }
  | _ => none }
def fnUtf8mb4BytesNoLimitIsTheCeilingRow : OpenClaim := { program := "qxb6001832amods", sum := "5e7a877e545ea6fb46cc907d84bd281d6b6c1fa5f883d456797236b336a42193", func := "example.com/shapewire/shapewire/zzlaws_sqldb_b1.FnUtf8mb4BytesNoLimitIsTheCeiling", spec := "fnUtf8mb4BytesNoLimitIsTheCeiling", make := .lifted ["publicsums"], apart := false }
def FnUtf8mb4BytesNoLimitIsTheCeilingSaid : Prop := fnUtf8mb4BytesNoLimitIsTheCeilingRow.holds Trym.pinned (OpenSpec.ofChange fnUtf8mb4BytesNoLimitIsTheCeilingSpec)

/-- ITS FALSE NEIGHBOUR: 'it returns false'. Refute it at one input. -/
def fnUtf8mb4BytesNoLimitIsTheCeilingWrong : ChangeSpec := { name := "fnUtf8mb4BytesNoLimitIsTheCeiling", fn := fun _ => fun
  | [d1, d2, d3] => { results := [.lit (.bool false)], args := [d1, d2, d3] }
  | _ => none }
def FnUtf8mb4BytesNoLimitIsTheCeilingWrongFalsely : Prop := fnUtf8mb4BytesNoLimitIsTheCeilingRow.holds Trym.pinned (OpenSpec.ofChange fnUtf8mb4BytesNoLimitIsTheCeilingWrong)

end Rows
end Go.Proofs.Qxb6001832aMods
