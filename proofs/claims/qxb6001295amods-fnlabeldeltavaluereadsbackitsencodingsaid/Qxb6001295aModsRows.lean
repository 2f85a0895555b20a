/-
  No cell of these rows narrows 'for every input' (looked for: loops, veiled, ifaces, maps, wideKeys, modest, calm, conditions, laid).
  DERIVED. THE GIVEN ROWS OF THIS SEAT. 6 by the template 'for every input the law returns true; each argument reads behind the call as it read before'; 0 by the template 'total and deterministic' (their statements: Qxb6001295aModsTotals.lean).
  GIVEN WITH THE SEED: the statements are not yours to turn. If you find one false, say at which input.
  Laid BY PROGRAM, IN A SANDBOX (cutbox-rows.mjs): the forced cells as the released guide's own fill.sh prints them over the translation 4e0d028ab22f6c7f… (all of the seat's roots in one cut). By AI agents, Wed Nov 11 2026. No macro, syntax, notation, axiom, sorry.
-/
import Derived.Test.Qxb6001295aModsChecked
import GoSem.Claim
import GoSem.ClaimJoined
import GoSem.ClaimMapViews
import Derived.JoinedTies
import Derived.KernelRfl
namespace Go.Proofs.Qxb6001295aMods
/- THE CELL 'sum', in the pinned program and in every row, IS THE sha256 OF THE DUMP (.gsa) THAT Qxb6001295aModsProg.lean LOADS. Nothing in Lean hashes anything: it is a label: what it is worth is what the hold of that sum in a sandbox is worth. -/
noncomputable def Trym.pinned : Pinned := { name := "qxb6001295amods", sum := "4e0d028ab22f6c7fffe69b3089fdf386dc395dcaf38a00a27f410768c510c30a", checked := Trym.checked }
namespace Rows
def none {H : Type} : Left H := { results := [], args := [] }

/-- 'zzlaws_internal_policy_b1.FnLabelDeltaValueReadsBackItsEncoding': WHATEVER THE INPUT: true; the input reads as it did. -/
def fnLabelDeltaValueReadsBackItsEncodingSpec : ChangeSpec := { name := "fnLabelDeltaValueReadsBackItsEncoding", fn := fun _ => fun
  | [d1, d2, d3] => { results := [.lit (.bool true)], args := [d1, d2, d3] }
  | _ => none }
def fnLabelDeltaValueReadsBackItsEncodingRow : OpenClaim := { program := "qxb6001295amods", sum := "4e0d028ab22f6c7fffe69b3089fdf386dc395dcaf38a00a27f410768c510c30a", func := "example.com/netloom/netloom/zzlaws_internal_policy_b1.FnLabelDeltaValueReadsBackItsEncoding", spec := "fnLabelDeltaValueReadsBackItsEncoding", make := .lifted ["publicsums"], apart := false }
def FnLabelDeltaValueReadsBackItsEncodingSaid : Prop := fnLabelDeltaValueReadsBackItsEncodingRow.holds Trym.pinned (OpenSpec.ofChange fnLabelDeltaValueReadsBackItsEncodingSpec)

/-- ITS FALSE NEIGHBOUR: 'it returns false'. Refute it at one input. -/
def fnLabelDeltaValueReadsBackItsEncodingWrong : ChangeSpec := { name := "fnLabelDeltaValueReadsBackItsEncoding", fn := fun _ => fun
  | [d1, d2, d3] => { results := [.lit (.bool false)], args := [d1, d2, d3] }
  | _ => none }
def FnLabelDeltaValueReadsBackItsEncodingWrongFalsely : Prop := fnLabelDeltaValueReadsBackItsEncodingRow.holds Trym.pinned (OpenSpec.ofChange fnLabelDeltaValueReadsBackItsEncodingWrong)

/-- 'zzlaws_internal_policy_b1.FnLabelDeltaValueOfJoinedDeltas': WHATEVER THE INPUT: true; the input reads as it did. -/
def fnLabelDeltaValueOfJoinedDeltasSpec : ChangeSpec := { name := "fnLabelDeltaValueOfJoinedDeltas", fn := fun _ => fun
  | [d1, d2, d3, d4, d5] => { results := [.lit (.bool true)], args := [d1, d2, d3, d4, d5] }
  | _ => none }
def fnLabelDeltaValueOfJoinedDeltasRow : OpenClaim := { program := "qxb6001295amods", sum := "4e0d028ab22f6c7fffe69b3089fdf386dc395dcaf38a00a27f410768c510c30a", func := "example.com/netloom/netloom/zzlaws_internal_policy_b1.FnLabelDeltaValueOfJoinedDeltas", spec := "fnLabelDeltaValueOfJoinedDeltas", make := .lifted ["publicsums"], apart := false }
def FnLabelDeltaValueOfJoinedDeltasSaid : Prop := fnLabelDeltaValueOfJoinedDeltasRow.holds Trym.pinned (OpenSpec.ofChange fnLabelDeltaValueOfJoinedDeltasSpec)

/-- ITS FALSE NEIGHBOUR: 'it returns false'. Refute it at one input. -/
def fnLabelDeltaValueOfJoinedDeltasWrong : ChangeSpec := { name := "fnLabelDeltaValueOfJoinedDeltas", fn := fun _ => fun
  | [d1, d2, d3, d4, d5] => { results := [.lit (.bool false)], args := [d1, d2, d3, d4, d5] }
  | _ => none }
def FnLabelDeltaValueOfJoinedDeltasWrongFalsely : Prop := fnLabelDeltaValueOfJoinedDeltasRow.holds Trym.pinned (OpenSpec.ofChange fnLabelDeltaValueOfJoinedDeltasWrong)

/-- 'zzlaws_internal_policy_b1.FnAsPortsAdmitsWhatTheAdminPortAdmits': WHATEVER THE INPUT: true; the input reads as it did. -/
def fnAsPortsAdmitsWhatTheAdminPortAdmitsSpec : ChangeSpec := { name := "fnAsPortsAdmitsWhatTheAdminPortAdmits", fn := fun _ => fun
  | [d1, d2, d3, d4, d5, d6, d7, d8, d9, d10, d11, d12] => { results := [.lit (.bool true)], args := [d1, d2, d3, d4, d5, d6, d7, d8, d9, d10, d11, d12] }
  | _ => none }
def fnAsPortsAdmitsWhatTheAdminPortAdmitsRow : OpenClaim := { program := "qxb6001295amods", sum := "4e0d028ab22f6c7fffe69b3089fdf386dc395dcaf38a00a27f410768c510c30a", func := "example.com/netloom/netloom/zzlaws_internal_policy_b1.FnAsPortsAdmitsWhatTheAdminPortAdmits", spec := "fnAsPortsAdmitsWhatTheAdminPortAdmits", make := .lifted ["publicsums"], apart := false }
def FnAsPortsAdmitsWhatTheAdminPortAdmitsSaid : Prop := fnAsPortsAdmitsWhatTheAdminPortAdmitsRow.holds Trym.pinned (OpenSpec.ofChange fnAsPortsAdmitsWhatTheAdminPortAdmitsSpec)

/-- ITS FALSE NEIGHBOUR: 'it returns false'. Refute it at one input. -/
def fnAsPortsAdmitsWhatTheAdminPortAdmitsWrong : ChangeSpec := { name := "fnAsPortsAdmitsWhatTheAdminPortAdmits", fn := fun _ => fun
  | [d1, d2, d3, d4, d5, d6, d7, d8, d9, d10, d11, d12] => { results := [.lit (.bool false)], args := [d1, d2, d3, d4, d5, d6, d7, d8, d9, d10, d11, d12] }
  | _ => none }
def FnAsPortsAdmitsWhatTheAdminPortAdmitsWrongFalsely : Prop := fnAsPortsAdmitsWhatTheAdminPortAdmitsRow.holds Trym.pinned (OpenSpec.ofChange fnAsPortsAdmitsWhatTheAdminPortAdmitsWrong)

/-- 'zzlaws_internal_policy_b1.FnAsPortsNeverOpensEveryPort': WHATEVER THE INPUT: true; the input reads as it did. -/
def fnAsPortsNeverOpensEveryPortSpec : ChangeSpec := { name := "fnAsPortsNeverOpensEveryPort", fn := fun _ => fun
  | [d1, d2, d3, d4, d5, d6, d7, d8, d9] => { results := [.lit (.bool true)], args := [d1, d2, d3, d4, d5, d6, d7, d8, d9] }
  | _ => none }
def fnAsPortsNeverOpensEveryPortRow : OpenClaim := { program := "qxb6001295amods", sum := "4e0d028ab22f6c7fffe69b3089fdf386dc395dcaf38a00a27f410768c510c30a", func := "example.com/netloom/netloom/zzlaws_internal_policy_b1.FnAsPortsNeverOpensEveryPort", spec := "fnAsPortsNeverOpensEveryPort", make := .lifted ["publicsums"], apart := false }
def FnAsPortsNeverOpensEveryPortSaid : Prop := fnAsPortsNeverOpensEveryPortRow.holds Trym.pinned (OpenSpec.ofChange fnAsPortsNeverOpensEveryPortSpec)

/-- ITS FALSE NEIGHBOUR: 'it returns false'. Refute it at one input. -/
def fnAsPortsNeverOpensEveryPortWrong : ChangeSpec := { name := "fnAsPortsNeverOpensEveryPort", fn := fun _ => fun
  | [d1, d2, d3, d4, d5, d6, d7, d8, d9] => { results := [.lit (.bool false)], args := [d1, d2, d3, d4, d5, d6, d7, d8, d9] }
  | _ => none }
def FnAsPortsNeverOpensEveryPortWrongFalsely : Prop := fnAsPortsNeverOpensEveryPortRow.holds Trym.pinned (OpenSpec.ofChange fnAsPortsNeverOpensEveryPortWrong)

/-- 'zzlaws_internal_policy_b1.FnAsPeerRefusesExactlyWhatItCannotEnforce': WHATEVER THE INPUT: true; the input reads as it did. -/
def fnAsPeerRefusesExactlyWhatItCannotEnforceSpec : ChangeSpec := { name := "fnAsPeerRefusesExactlyWhatItCannotEnforce", fn := fun _ => fun
  | [d1, d2, d3, d4, d5, d6, d7, d8, d9, d10, d11, d12] => { results := [.lit (.bool true)], args := [d1, d2, d3, d4, d5, d6, d7, d8, d9, d10, d11, d12] }
  | _ => none }
def fnAsPeerRefusesExactlyWhatItCannotEnforceRow : OpenClaim := { program := "qxb6001295amods", sum := "4e0d028ab22f6c7fffe69b3089fdf386dc395dcaf38a00a27f410768c510c30a", func := "example.com/netloom/netloom/zzlaws_internal_policy_b1.FnAsPeerRefusesExactlyWhatItCannotEnforce", spec := "fnAsPeerRefusesExactlyWhatItCannotEnforce", make := .lifted ["publicsums"], apart := false }
def FnAsPeerRefusesExactlyWhatItCannotEnforceSaid : Prop := fnAsPeerRefusesExactlyWhatItCannotEnforceRow.holds Trym.pinned (OpenSpec.ofChange fnAsPeerRefusesExactlyWhatItCannotEnforceSpec)

/-- ITS FALSE NEIGHBOUR: 'it returns false'. Refute it at one input. -/
def fnAsPeerRefusesExactlyWhatItCannotEnforceWrong : ChangeSpec := { name := "fnAsPeerRefusesExactlyWhatItCannotEnforce", fn := fun _ => fun
  | [d1, d2, d3, d4, d5, d6, d7, d8, d9, d10, d11, d12] => { results := [.lit (.bool false)], args := [d1, d2, d3, d4, d5, d6, d7, d8, d9, d10, d11, d12] }
  | _ => none }
def FnAsPeerRefusesExactlyWhatItCannotEnforceWrongFalsely : Prop := fnAsPeerRefusesExactlyWhatItCannotEnforceRow.holds Trym.pinned (OpenSpec.ofChange fnAsPeerRefusesExactlyWhatItCannotEnforceWrong)

/-- 'zzlaws_internal_policy_b1.FnAsPeerKeepsTheGivenSelectors': WHATEVER THE INPUT: true; the input reads as it did. -/
def fnAsPeerKeepsTheGivenSelectorsSpec : ChangeSpec := { name := "fnAsPeerKeepsTheGivenSelectors", fn := fun _ => fun
  | [d1, d2, d3, d4, d5, d6, d7, d8, d9, d10, d11, d12] => { results := [.lit (.bool true)], args := [d1, d2, d3, d4, d5, d6, d7, d8, d9, d10, d11, d12] }
  | _ => none }
def fnAsPeerKeepsTheGivenSelectorsRow : OpenClaim := { program := "qxb6001295amods", sum := "4e0d028ab22f6c7fffe69b3089fdf386dc395dcaf38a00a27f410768c510c30a", func := "example.com/netloom/netloom/zzlaws_internal_policy_b1.FnAsPeerKeepsTheGivenSelectors", spec := "fnAsPeerKeepsTheGivenSelectors", make := .lifted ["publicsums"], apart := false }
def FnAsPeerKeepsTheGivenSelectorsSaid : Prop := fnAsPeerKeepsTheGivenSelectorsRow.holds Trym.pinned (OpenSpec.ofChange fnAsPeerKeepsTheGivenSelectorsSpec)

/-- ITS FALSE NEIGHBOUR: 'it returns false'. Refute it at one input. -/
def fnAsPeerKeepsTheGivenSelectorsWrong : ChangeSpec := { name := "fnAsPeerKeepsTheGivenSelectors", fn := fun _ => fun
  | [d1, d2, d3, d4, d5, d6, d7, d8, d9, d10, d11, d12] => { results := [.lit (.bool false)], args := [d1, d2, d3, d4, d5, d6, d7, d8, d9, d10, d11, d12] }
  | _ => none }
def FnAsPeerKeepsTheGivenSelectorsWrongFalsely : Prop := fnAsPeerKeepsTheGivenSelectorsRow.holds Trym.pinned (OpenSpec.ofChange fnAsPeerKeepsTheGivenSelectorsWrong)

end Rows
end Go.Proofs.Qxb6001295aMods
