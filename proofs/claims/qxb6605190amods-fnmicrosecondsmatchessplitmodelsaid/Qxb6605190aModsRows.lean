/-
  No cell of these rows narrows 'for every input' (looked for: loops, veiled, ifaces, maps, wideKeys, modest, calm, conditions, laid).
  DERIVED. THE GIVEN ROWS OF THIS SEAT. 4 by the template 'for every input the law returns true; each argument reads behind the call as it read before'; 0 by the template 'total and deterministic' (their statements: Qxb6605190aModsTotals.lean).
  GIVEN WITH THE SEED: the statements are not yours to turn. If you find one false, say at which input.
  Laid BY PROGRAM, IN A SANDBOX (cutbox-rows.mjs): the forced cells as the released guide's own fill.sh prints them over the translation e54e957fe26b3317… (all of the seat's roots in one cut). By AI agents, Wed Nov 11 2026. No macro, syntax, notation, axiom, sorry.
-/
import Derived.Test.Qxb6605190aModsChecked
import GoSem.Claim
import GoSem.ClaimJoined
import GoSem.ClaimMapViews
import Derived.JoinedTies
import Derived.KernelRfl
namespace Go.Proofs.Qxb6605190aMods
/- THE CELL 'sum', in the pinned program and in every row, IS THE sha256 OF THE DUMP (.gsa) THAT Qxb6605190aModsProg.lean LOADS. Nothing in Lean hashes anything: it is a label: what it is worth is what the hold of that sum in a sandbox is worth. -/
noncomputable def Trym.pinned : Pinned := { name := "qxb6605190amods", sum := "e54e957fe26b3317c7f4d0d391a68a44e694d674f95fa80df3ec505d41bc99f6", checked := Trym.checked }
namespace Rows
def none {H : Type} : Left H := { results := [], args := [] }

/-- 'zzlaws_gateway_b1.FnMicrosecondsMatchesSplitModel': WHATEVER THE INPUT: true; the input reads as it did. -/
def fnMicrosecondsMatchesSplitModelSpec : ChangeSpec := { name := "fnMicrosecondsMatchesSplitModel", fn := fun _ => fun
  | [d] => { results := [.lit (.bool true)], args := [d] }
  | _ => none }
def fnMicrosecondsMatchesSplitModelRow : OpenClaim := { program := "qxb6605190amods", sum := "e54e957fe26b3317c7f4d0d391a68a44e694d674f95fa80df3ec505d41bc99f6", func := "example.com/shardwright/shardwright/zzlaws_gateway_b1.FnMicrosecondsMatchesSplitModel", spec := "fnMicrosecondsMatchesSplitModel", make := .lifted ["publicsums"], apart := false }
def FnMicrosecondsMatchesSplitModelSaid : Prop := fnMicrosecondsMatchesSplitModelRow.holds Trym.pinned (OpenSpec.ofChange fnMicrosecondsMatchesSplitModelSpec)

/-- ITS FALSE NEIGHBOUR: 'it returns false'. Refute it at one input. -/
def fnMicrosecondsMatchesSplitModelWrong : ChangeSpec := { name := "fnMicrosecondsMatchesSplitModel", fn := fun _ => fun
  | [d] => { results := [.lit (.bool false)], args := [d] }
  | _ => none }
def FnMicrosecondsMatchesSplitModelWrongFalsely : Prop := fnMicrosecondsMatchesSplitModelRow.holds Trym.pinned (OpenSpec.ofChange fnMicrosecondsMatchesSplitModelWrong)

/-- 'zzlaws_gateway_b1.FnMicrosecondsReadsFormattedTime': WHATEVER THE INPUT: true; the input reads as it did. -/
def fnMicrosecondsReadsFormattedTimeSpec : ChangeSpec := { name := "fnMicrosecondsReadsFormattedTime", fn := fun _ => fun
  | [d1, d2, d3, d4, d5, d6] => { results := [.lit (.bool true)], args := [d1, d2, d3, d4, d5, d6] }
  | _ => none }
def fnMicrosecondsReadsFormattedTimeRow : OpenClaim := { program := "qxb6605190amods", sum := "e54e957fe26b3317c7f4d0d391a68a44e694d674f95fa80df3ec505d41bc99f6", func := "example.com/shardwright/shardwright/zzlaws_gateway_b1.FnMicrosecondsReadsFormattedTime", spec := "fnMicrosecondsReadsFormattedTime", make := .lifted ["publicsums"], apart := false }
def FnMicrosecondsReadsFormattedTimeSaid : Prop := fnMicrosecondsReadsFormattedTimeRow.holds Trym.pinned (OpenSpec.ofChange fnMicrosecondsReadsFormattedTimeSpec)

/-- ITS FALSE NEIGHBOUR: 'it returns false'. Refute it at one input. -/
def fnMicrosecondsReadsFormattedTimeWrong : ChangeSpec := { name := "fnMicrosecondsReadsFormattedTime", fn := fun _ => fun
  | [d1, d2, d3, d4, d5, d6] => { results := [.lit (.bool false)], args := [d1, d2, d3, d4, d5, d6] }
  | _ => none }
def FnMicrosecondsReadsFormattedTimeWrongFalsely : Prop := fnMicrosecondsReadsFormattedTimeRow.holds Trym.pinned (OpenSpec.ofChange fnMicrosecondsReadsFormattedTimeWrong)

/-- 'zzlaws_gateway_b1.FnCompareWeightsMatchesPaddedModel': WHATEVER THE INPUT: true; the input reads as it did. -/
def fnCompareWeightsMatchesPaddedModelSpec : ChangeSpec := { name := "fnCompareWeightsMatchesPaddedModel", fn := fun _ => fun
  | [d1, d2, d3] => { results := [.lit (.bool true)], args := [d1, d2, d3] }
  | _ => none }
def fnCompareWeightsMatchesPaddedModelRow : OpenClaim := { program := "qxb6605190amods", sum := "e54e957fe26b3317c7f4d0d391a68a44e694d674f95fa80df3ec505d41bc99f6", func := "example.com/shardwright/shardwright/zzlaws_gateway_b1.FnCompareWeightsMatchesPaddedModel", spec := "fnCompareWeightsMatchesPaddedModel", inPlace := ["internal/bytealg.Compare"], make := .lifted ["publicsums"], apart := false }
def FnCompareWeightsMatchesPaddedModelSaid : Prop := fnCompareWeightsMatchesPaddedModelRow.holds Trym.pinned (OpenSpec.ofChange fnCompareWeightsMatchesPaddedModelSpec)

/-- ITS FALSE NEIGHBOUR: 'it returns false'. Refute it at one input. -/
def fnCompareWeightsMatchesPaddedModelWrong : ChangeSpec := { name := "fnCompareWeightsMatchesPaddedModel", fn := fun _ => fun
  | [d1, d2, d3] => { results := [.lit (.bool false)], args := [d1, d2, d3] }
  | _ => none }
def FnCompareWeightsMatchesPaddedModelWrongFalsely : Prop := fnCompareWeightsMatchesPaddedModelRow.holds Trym.pinned (OpenSpec.ofChange fnCompareWeightsMatchesPaddedModelWrong)

/-- 'zzlaws_gateway_b1.FnCompareWeightsWholeUnitsPadWithSpaces': WHATEVER THE INPUT: true; the input reads as it did. -/
def fnCompareWeightsWholeUnitsPadWithSpacesSpec : ChangeSpec := { name := "fnCompareWeightsWholeUnitsPadWithSpaces", fn := fun _ => fun
  | [d1, d2, d3] => { results := [.lit (.bool true)], args := [d1, d2, d3] }
  | _ => none }
def fnCompareWeightsWholeUnitsPadWithSpacesRow : OpenClaim := { program := "qxb6605190amods", sum := "e54e957fe26b3317c7f4d0d391a68a44e694d674f95fa80df3ec505d41bc99f6", func := "example.com/shardwright/shardwright/zzlaws_gateway_b1.FnCompareWeightsWholeUnitsPadWithSpaces", spec := "fnCompareWeightsWholeUnitsPadWithSpaces", inPlace := ["internal/bytealg.Compare"], make := .lifted ["publicsums"], apart := false }
def FnCompareWeightsWholeUnitsPadWithSpacesSaid : Prop := fnCompareWeightsWholeUnitsPadWithSpacesRow.holds Trym.pinned (OpenSpec.ofChange fnCompareWeightsWholeUnitsPadWithSpacesSpec)

/-- ITS FALSE NEIGHBOUR: 'it returns false'. Refute it at one input. -/
def fnCompareWeightsWholeUnitsPadWithSpacesWrong : ChangeSpec := { name := "fnCompareWeightsWholeUnitsPadWithSpaces", fn := fun _ => fun
  | [d1, d2, d3] => { results := [.lit (.bool false)], args := [d1, d2, d3] }
  | _ => none }
def FnCompareWeightsWholeUnitsPadWithSpacesWrongFalsely : Prop := fnCompareWeightsWholeUnitsPadWithSpacesRow.holds Trym.pinned (OpenSpec.ofChange fnCompareWeightsWholeUnitsPadWithSpacesWrong)

end Rows
end Go.Proofs.Qxb6605190aMods
