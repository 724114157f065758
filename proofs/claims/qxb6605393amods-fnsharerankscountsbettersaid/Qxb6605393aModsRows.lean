/-
  No cell of these rows narrows 'for every input' (looked for: loops, veiled, ifaces, maps, wideKeys, modest, calm, conditions, laid).
  DERIVED. THE GIVEN ROWS OF THIS SEAT. 3 by the template 'for every input the law returns true; each argument reads behind the call as it read before'; 0 by the template 'total and deterministic' (their statements: Qxb6605393aModsTotals.lean).
  GIVEN WITH THE SEED: the statements are not yours to turn. If you find one false, say at which input.
  Laid BY PROGRAM, IN A SANDBOX (cutbox-rows.mjs): the forced cells as the released guide's own fill.sh prints them over the translation adfafa097ac4ae68… (all of the seat's roots in one cut). By AI agents, Wed Nov 11 2026. No macro, syntax, notation, axiom, sorry.
-/
import Derived.Test.Qxb6605393aModsChecked
import GoSem.Claim
import GoSem.ClaimJoined
import GoSem.ClaimMapViews
import Derived.JoinedTies
import Derived.KernelRfl
namespace Go.Proofs.Qxb6605393aMods
/- THE CELL 'sum', in the pinned program and in every row, IS THE sha256 OF THE DUMP (.gsa) THAT Qxb6605393aModsProg.lean LOADS. Nothing in Lean hashes anything: it is a label: what it is worth is what the hold of that sum in a sandbox is worth. -/
noncomputable def Trym.pinned : Pinned := { name := "qxb6605393amods", sum := "adfafa097ac4ae689d58ec9ae045210a93de9e9cd13bd263912a01b4cec95881", checked := Trym.checked }
namespace Rows
def none {H : Type} : Left H := { results := [], args := [] }

/-- 'zzlaws_internal_store_b1.FnShareRanksTakesRunStart': WHATEVER THE INPUT: true; the input reads as it did. -/
def fnShareRanksTakesRunStartSpec : ChangeSpec := { name := "fnShareRanksTakesRunStart", fn := fun _ => fun
  | [d1, d2] => { results := [.lit (.bool true)], args := [d1, d2] }
  | _ => none }
def fnShareRanksTakesRunStartRow : OpenClaim := { program := "qxb6605393amods", sum := "adfafa097ac4ae689d58ec9ae045210a93de9e9cd13bd263912a01b4cec95881", func := "example.com/outrank/outrank/zzlaws_internal_store_b1.FnShareRanksTakesRunStart", spec := "fnShareRanksTakesRunStart", make := .lifted ["publicsums"], apart := false }
def FnShareRanksTakesRunStartSaid : Prop := fnShareRanksTakesRunStartRow.holds Trym.pinned (OpenSpec.ofChange fnShareRanksTakesRunStartSpec)

/-- ITS FALSE NEIGHBOUR: 'it returns false'. Refute it at one input. -/
def fnShareRanksTakesRunStartWrong : ChangeSpec := { name := "fnShareRanksTakesRunStart", fn := fun _ => fun
  | [d1, d2] => { results := [.lit (.bool false)], args := [d1, d2] }
  | _ => none }
def FnShareRanksTakesRunStartWrongFalsely : Prop := fnShareRanksTakesRunStartRow.holds Trym.pinned (OpenSpec.ofChange fnShareRanksTakesRunStartWrong)

/-- 'zzlaws_internal_store_b1.FnShareRanksCountsBetter': WHATEVER THE INPUT: true; the input reads as it did. -/
def fnShareRanksCountsBetterSpec : ChangeSpec := { name := "fnShareRanksCountsBetter", fn := fun _ => fun
  | [d1, d2] => { results := [.lit (.bool true)], args := [d1, d2] }
  | _ => none }
def fnShareRanksCountsBetterRow : OpenClaim := { program := "qxb6605393amods", sum := "adfafa097ac4ae689d58ec9ae045210a93de9e9cd13bd263912a01b4cec95881", func := "example.com/outrank/outrank/zzlaws_internal_store_b1.FnShareRanksCountsBetter", spec := "fnShareRanksCountsBetter", make := .lifted ["publicsums"], apart := false }
def FnShareRanksCountsBetterSaid : Prop := fnShareRanksCountsBetterRow.holds Trym.pinned (OpenSpec.ofChange fnShareRanksCountsBetterSpec)

/-- ITS FALSE NEIGHBOUR: 'it returns false'. Refute it at one input. -/
def fnShareRanksCountsBetterWrong : ChangeSpec := { name := "fnShareRanksCountsBetter", fn := fun _ => fun
  | [d1, d2] => { results := [.lit (.bool false)], args := [d1, d2] }
  | _ => none }
def FnShareRanksCountsBetterWrongFalsely : Prop := fnShareRanksCountsBetterRow.holds Trym.pinned (OpenSpec.ofChange fnShareRanksCountsBetterWrong)

/-- 'zzlaws_internal_store_b1.FnOfKeysSeparatePeriods': WHATEVER THE INPUT: true; the input reads as it did. -/
def fnOfKeysSeparatePeriodsSpec : ChangeSpec := { name := "fnOfKeysSeparatePeriods", fn := fun _ => fun
  | [d1, d2, d3, d4, d5] => { results := [.lit (.bool true)], args := [d1, d2, d3, d4, d5] }
  | _ => none }
def fnOfKeysSeparatePeriodsRow : OpenClaim := { program := "qxb6605393amods", sum := "adfafa097ac4ae689d58ec9ae045210a93de9e9cd13bd263912a01b4cec95881", func := "example.com/outrank/outrank/zzlaws_internal_store_b1.FnOfKeysSeparatePeriods", spec := "fnOfKeysSeparatePeriods", make := .lifted ["publicsums"], apart := false }
def FnOfKeysSeparatePeriodsSaid : Prop := fnOfKeysSeparatePeriodsRow.holds Trym.pinned (OpenSpec.ofChange fnOfKeysSeparatePeriodsSpec)

/-- ITS FALSE NEIGHBOUR: 'it returns false'. Refute it at one input. -/
def fnOfKeysSeparatePeriodsWrong : ChangeSpec := { name := "fnOfKeysSeparatePeriods", fn := fun _ => fun
  | [d1, d2, d3, d4, d5] => { results := [.lit (.bool false)], args := [d1, d2, d3, d4, d5] }
  | _ => none }
def FnOfKeysSeparatePeriodsWrongFalsely : Prop := fnOfKeysSeparatePeriodsRow.holds Trym.pinned (OpenSpec.ofChange fnOfKeysSeparatePeriodsWrong)

end Rows
end Go.Proofs.Qxb6605393aMods
