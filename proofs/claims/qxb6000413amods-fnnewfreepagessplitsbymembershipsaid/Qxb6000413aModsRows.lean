/-
  No cell of these rows narrows 'for every input' (looked for: loops, veiled, ifaces, maps, wideKeys, modest, calm, conditions, laid).
  DERIVED. THE GIVEN ROWS OF THIS SEAT. 8 by the template 'for every input the law returns true; each argument reads behind the call as it read before'; 0 by the template 'total and deterministic' (their statements: Qxb6000413aModsTotals.lean).
  GIVEN WITH THE SEED: the statements are not yours to turn. If you find one false, say at which input.
  Laid BY PROGRAM, IN A SANDBOX (cutbox-rows.mjs): the forced cells as the released guide's own fill.sh prints them over the translation 54626fc437b65d61… (all of the seat's roots in one cut). By AI agents, Wed Nov 11 2026. No macro, syntax, notation, axiom, sorry.
-/
import Derived.Test.Qxb6000413aModsChecked
import GoSem.Claim
import GoSem.ClaimJoined
import GoSem.ClaimMapViews
import Derived.JoinedTies
import Derived.KernelRfl
namespace Go.Proofs.Qxb6000413aMods
/- THE CELL 'sum', in the pinned program and in every row, IS THE sha256 OF THE DUMP (.gsa) THAT Qxb6000413aModsProg.lean LOADS. Nothing in Lean hashes anything: it is a label: what it is worth is what the hold of that sum in a sandbox is worth. -/
noncomputable def Trym.pinned : Pinned := { name := "qxb6000413amods", sum := "54626fc437b65d612582eadabefcdf82f28759c408c80ec9a2b3a0cfea66944d", checked := Trym.checked }
namespace Rows
def none {H : Type} : Left H := { results := [], args := [] }

/-- 'zzlaws_root_b1.FnMmapSizeIsLeastAllowedSize': WHATEVER THE INPUT: true; the input reads as it did. -/
def fnMmapSizeIsLeastAllowedSizeSpec : ChangeSpec := { name := "fnMmapSizeIsLeastAllowedSize", fn := fun _ => fun
  | [d] => { results := [.lit (.bool true)], args := [d] }
  | _ => none }
def fnMmapSizeIsLeastAllowedSizeRow : OpenClaim := { program := "qxb6000413amods", sum := "54626fc437b65d612582eadabefcdf82f28759c408c80ec9a2b3a0cfea66944d", func := "example.com/strongbox/zzlaws_root_b1.FnMmapSizeIsLeastAllowedSize", spec := "fnMmapSizeIsLeastAllowedSize", make := .lifted ["publicsums"], apart := false }
def FnMmapSizeIsLeastAllowedSizeSaid : Prop := fnMmapSizeIsLeastAllowedSizeRow.holds Trym.pinned (OpenSpec.ofChange fnMmapSizeIsLeastAllowedSizeSpec)

/-- ITS FALSE NEIGHBOUR: 'it returns false'. Refute it at one input. -/
def fnMmapSizeIsLeastAllowedSizeWrong : ChangeSpec := { name := "fnMmapSizeIsLeastAllowedSize", fn := fun _ => fun
  | [d] => { results := [.lit (.bool false)], args := [d] }
  | _ => none }
def FnMmapSizeIsLeastAllowedSizeWrongFalsely : Prop := fnMmapSizeIsLeastAllowedSizeRow.holds Trym.pinned (OpenSpec.ofChange fnMmapSizeIsLeastAllowedSizeWrong)

/-- 'zzlaws_root_b1.FnMmapSizeMonotone': WHATEVER THE INPUT: true; the input reads as it did. -/
def fnMmapSizeMonotoneSpec : ChangeSpec := { name := "fnMmapSizeMonotone", fn := fun _ => fun
  | [d1, d2] => { results := [.lit (.bool true)], args := [d1, d2] }
  | _ => none }
def fnMmapSizeMonotoneRow : OpenClaim := { program := "qxb6000413amods", sum := "54626fc437b65d612582eadabefcdf82f28759c408c80ec9a2b3a0cfea66944d", func := "example.com/strongbox/zzlaws_root_b1.FnMmapSizeMonotone", spec := "fnMmapSizeMonotone", make := .lifted ["publicsums"], apart := false }
def FnMmapSizeMonotoneSaid : Prop := fnMmapSizeMonotoneRow.holds Trym.pinned (OpenSpec.ofChange fnMmapSizeMonotoneSpec)

/-- ITS FALSE NEIGHBOUR: 'it returns false'. Refute it at one input. -/
def fnMmapSizeMonotoneWrong : ChangeSpec := { name := "fnMmapSizeMonotone", fn := fun _ => fun
  | [d1, d2] => { results := [.lit (.bool false)], args := [d1, d2] }
  | _ => none }
def FnMmapSizeMonotoneWrongFalsely : Prop := fnMmapSizeMonotoneRow.holds Trym.pinned (OpenSpec.ofChange fnMmapSizeMonotoneWrong)

/-- 'zzlaws_root_b1.FnMmapSizeIdempotent': WHATEVER THE INPUT: true; the input reads as it did. -/
def fnMmapSizeIdempotentSpec : ChangeSpec := { name := "fnMmapSizeIdempotent", fn := fun _ => fun
  | [d] => { results := [.lit (.bool true)], args := [d] }
  | _ => none }
def fnMmapSizeIdempotentRow : OpenClaim := { program := "qxb6000413amods", sum := "54626fc437b65d612582eadabefcdf82f28759c408c80ec9a2b3a0cfea66944d", func := "example.com/strongbox/zzlaws_root_b1.FnMmapSizeIdempotent", spec := "fnMmapSizeIdempotent", make := .lifted ["publicsums"], apart := false }
def FnMmapSizeIdempotentSaid : Prop := fnMmapSizeIdempotentRow.holds Trym.pinned (OpenSpec.ofChange fnMmapSizeIdempotentSpec)

/-- ITS FALSE NEIGHBOUR: 'it returns false'. Refute it at one input. -/
def fnMmapSizeIdempotentWrong : ChangeSpec := { name := "fnMmapSizeIdempotent", fn := fun _ => fun
  | [d] => { results := [.lit (.bool false)], args := [d] }
  | _ => none }
def FnMmapSizeIdempotentWrongFalsely : Prop := fnMmapSizeIdempotentRow.holds Trym.pinned (OpenSpec.ofChange fnMmapSizeIdempotentWrong)

/-- 'zzlaws_root_b1.FnNewFreePagesSplitsByMembership': WHATEVER THE INPUT: true; the input reads as it did. -/
def fnNewFreePagesSplitsByMembershipSpec : ChangeSpec := { name := "fnNewFreePagesSplitsByMembership", fn := fun _ => fun
  | [d1, d2] => { results := [.lit (.bool true)], args := [d1, d2] }
  | _ => none }
def fnNewFreePagesSplitsByMembershipRow : OpenClaim := { program := "qxb6000413amods", sum := "54626fc437b65d612582eadabefcdf82f28759c408c80ec9a2b3a0cfea66944d", func := "example.com/strongbox/zzlaws_root_b1.FnNewFreePagesSplitsByMembership", spec := "fnNewFreePagesSplitsByMembership", make := .lifted ["publicsums"], apart := false }
def FnNewFreePagesSplitsByMembershipSaid : Prop := fnNewFreePagesSplitsByMembershipRow.holds Trym.pinned (OpenSpec.ofChange fnNewFreePagesSplitsByMembershipSpec)

/-- ITS FALSE NEIGHBOUR: 'it returns false'. Refute it at one input. -/
def fnNewFreePagesSplitsByMembershipWrong : ChangeSpec := { name := "fnNewFreePagesSplitsByMembership", fn := fun _ => fun
  | [d1, d2] => { results := [.lit (.bool false)], args := [d1, d2] }
  | _ => none }
def FnNewFreePagesSplitsByMembershipWrongFalsely : Prop := fnNewFreePagesSplitsByMembershipRow.holds Trym.pinned (OpenSpec.ofChange fnNewFreePagesSplitsByMembershipWrong)

/-- 'zzlaws_root_b1.FnHeldPagesNeverTaken': WHATEVER THE INPUT: true; the input reads as it did. -/
def fnHeldPagesNeverTakenSpec : ChangeSpec := { name := "fnHeldPagesNeverTaken", fn := fun _ => fun
  | [d1, d2, d3] => { results := [.lit (.bool true)], args := [d1, d2, d3] }
  | _ => none }
def fnHeldPagesNeverTakenRow : OpenClaim := { program := "qxb6000413amods", sum := "54626fc437b65d612582eadabefcdf82f28759c408c80ec9a2b3a0cfea66944d", func := "example.com/strongbox/zzlaws_root_b1.FnHeldPagesNeverTaken", spec := "fnHeldPagesNeverTaken", make := .lifted ["publicsums"], apart := false }
def FnHeldPagesNeverTakenSaid : Prop := fnHeldPagesNeverTakenRow.holds Trym.pinned (OpenSpec.ofChange fnHeldPagesNeverTakenSpec)

/-- ITS FALSE NEIGHBOUR: 'it returns false'. Refute it at one input. -/
def fnHeldPagesNeverTakenWrong : ChangeSpec := { name := "fnHeldPagesNeverTaken", fn := fun _ => fun
  | [d1, d2, d3] => { results := [.lit (.bool false)], args := [d1, d2, d3] }
  | _ => none }
def FnHeldPagesNeverTakenWrongFalsely : Prop := fnHeldPagesNeverTakenRow.holds Trym.pinned (OpenSpec.ofChange fnHeldPagesNeverTakenWrong)

/-- 'zzlaws_root_b1.FnTakeTakesLowestRunOfN': WHATEVER THE INPUT: true; the input reads as it did. -/
def fnTakeTakesLowestRunOfNSpec : ChangeSpec := { name := "fnTakeTakesLowestRunOfN", fn := fun _ => fun
  | [d1, d2] => { results := [.lit (.bool true)], args := [d1, d2] }
  | _ => none }
def fnTakeTakesLowestRunOfNRow : OpenClaim := { program := "qxb6000413amods", sum := "54626fc437b65d612582eadabefcdf82f28759c408c80ec9a2b3a0cfea66944d", func := "example.com/strongbox/zzlaws_root_b1.FnTakeTakesLowestRunOfN", spec := "fnTakeTakesLowestRunOfN", make := .lifted ["publicsums"], apart := false }
def FnTakeTakesLowestRunOfNSaid : Prop := fnTakeTakesLowestRunOfNRow.holds Trym.pinned (OpenSpec.ofChange fnTakeTakesLowestRunOfNSpec)

/-- ITS FALSE NEIGHBOUR: 'it returns false'. Refute it at one input. -/
def fnTakeTakesLowestRunOfNWrong : ChangeSpec := { name := "fnTakeTakesLowestRunOfN", fn := fun _ => fun
  | [d1, d2] => { results := [.lit (.bool false)], args := [d1, d2] }
  | _ => none }
def FnTakeTakesLowestRunOfNWrongFalsely : Prop := fnTakeTakesLowestRunOfNRow.holds Trym.pinned (OpenSpec.ofChange fnTakeTakesLowestRunOfNWrong)

/-- 'zzlaws_root_b1.FnTakeLongerRunNeverEarlier': WHATEVER THE INPUT: true; the input reads as it did. -/
def fnTakeLongerRunNeverEarlierSpec : ChangeSpec := { name := "fnTakeLongerRunNeverEarlier", fn := fun _ => fun
  | [d1, d2] => { results := [.lit (.bool true)], args := [d1, d2] }
  | _ => none }
def fnTakeLongerRunNeverEarlierRow : OpenClaim := { program := "qxb6000413amods", sum := "54626fc437b65d612582eadabefcdf82f28759c408c80ec9a2b3a0cfea66944d", func := "example.com/strongbox/zzlaws_root_b1.FnTakeLongerRunNeverEarlier", spec := "fnTakeLongerRunNeverEarlier", make := .lifted ["publicsums"], apart := false }
def FnTakeLongerRunNeverEarlierSaid : Prop := fnTakeLongerRunNeverEarlierRow.holds Trym.pinned (OpenSpec.ofChange fnTakeLongerRunNeverEarlierSpec)

/-- ITS FALSE NEIGHBOUR: 'it returns false'. Refute it at one input. -/
def fnTakeLongerRunNeverEarlierWrong : ChangeSpec := { name := "fnTakeLongerRunNeverEarlier", fn := fun _ => fun
  | [d1, d2] => { results := [.lit (.bool false)], args := [d1, d2] }
  | _ => none }
def FnTakeLongerRunNeverEarlierWrongFalsely : Prop := fnTakeLongerRunNeverEarlierRow.holds Trym.pinned (OpenSpec.ofChange fnTakeLongerRunNeverEarlierWrong)

/-- 'zzlaws_root_b1.FnTakeScriptConservesPages': WHATEVER THE INPUT: true; the input reads as it did. -/
def fnTakeScriptConservesPagesSpec : ChangeSpec := { name := "fnTakeScriptConservesPages", fn := fun _ => fun
  | [d1, d2] => { results := [.lit (.bool true)], args := [d1, d2] }
  | _ => none }
def fnTakeScriptConservesPagesRow : OpenClaim := { program := "qxb6000413amods", sum := "54626fc437b65d612582eadabefcdf82f28759c408c80ec9a2b3a0cfea66944d", func := "example.com/strongbox/zzlaws_root_b1.FnTakeScriptConservesPages", spec := "fnTakeScriptConservesPages", make := .lifted ["publicsums"], apart := false }
def FnTakeScriptConservesPagesSaid : Prop := fnTakeScriptConservesPagesRow.holds Trym.pinned (OpenSpec.ofChange fnTakeScriptConservesPagesSpec)

/-- ITS FALSE NEIGHBOUR: 'it returns false'. Refute it at one input. -/
def fnTakeScriptConservesPagesWrong : ChangeSpec := { name := "fnTakeScriptConservesPages", fn := fun _ => fun
  | [d1, d2] => { results := [.lit (.bool false)], args := [d1, d2] }
  | _ => none }
def FnTakeScriptConservesPagesWrongFalsely : Prop := fnTakeScriptConservesPagesRow.holds Trym.pinned (OpenSpec.ofChange fnTakeScriptConservesPagesWrong)

end Rows
end Go.Proofs.Qxb6000413aMods
