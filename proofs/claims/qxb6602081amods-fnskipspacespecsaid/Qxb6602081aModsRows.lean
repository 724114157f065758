/-
  No cell of these rows narrows 'for every input' (looked for: loops, veiled, ifaces, maps, wideKeys, modest, calm, conditions, laid).
  DERIVED. THE GIVEN ROWS OF THIS SEAT. 4 by the template 'for every input the law returns true; each argument reads behind the call as it read before'; 0 by the template 'total and deterministic' (their statements: Qxb6602081aModsTotals.lean).
  GIVEN WITH THE SEED: the statements are not yours to turn. If you find one false, say at which input.
  Laid BY PROGRAM, IN A SANDBOX (cutbox-rows.mjs): the forced cells as the released guide's own fill.sh prints them over the translation c34435d44cfd412c… (all of the seat's roots in one cut). By AI agents, Wed Nov 11 2026. No macro, syntax, notation, axiom, sorry.
-/
import Derived.Test.Qxb6602081aModsChecked
import GoSem.Claim
import GoSem.ClaimJoined
import GoSem.ClaimMapViews
import Derived.JoinedTies
import Derived.KernelRfl
namespace Go.Proofs.Qxb6602081aMods
/- THE CELL 'sum', in the pinned program and in every row, IS THE sha256 OF THE DUMP (.gsa) THAT Qxb6602081aModsProg.lean LOADS. Nothing in Lean hashes anything: it is a label: what it is worth is what the hold of that sum in a sandbox is worth. -/
noncomputable def Trym.pinned : Pinned := { name := "qxb6602081amods", sum := "c34435d44cfd412c109c7d5a94664804441c4fdeead71e9e479ec0601c66d4d1", checked := Trym.checked }
namespace Rows
def none {H : Type} : Left H := { results := [], args := [] }

/-- 'zzlaws_openai_b1.FnSkipSpaceSpec': WHATEVER THE INPUT: true; the input reads as it did. -/
def fnSkipSpaceSpecSpec : ChangeSpec := { name := "fnSkipSpaceSpec", fn := fun _ => fun
  | [d1, d2] => { results := [.lit (.bool true)], args := [d1, d2] }
  | _ => none }
def fnSkipSpaceSpecRow : OpenClaim := { program := "qxb6602081amods", sum := "c34435d44cfd412c109c7d5a94664804441c4fdeead71e9e479ec0601c66d4d1", func := "example.com/headroom/headroom/zzlaws_openai_b1.FnSkipSpaceSpec", spec := "fnSkipSpaceSpec", make := .lifted ["publicsums"], apart := false }
def FnSkipSpaceSpecSaid : Prop := fnSkipSpaceSpecRow.holds Trym.pinned (OpenSpec.ofChange fnSkipSpaceSpecSpec)

/-- ITS FALSE NEIGHBOUR: 'it returns false'. Refute it at one input. -/
def fnSkipSpaceSpecWrong : ChangeSpec := { name := "fnSkipSpaceSpec", fn := fun _ => fun
  | [d1, d2] => { results := [.lit (.bool false)], args := [d1, d2] }
  | _ => none }
def FnSkipSpaceSpecWrongFalsely : Prop := fnSkipSpaceSpecRow.holds Trym.pinned (OpenSpec.ofChange fnSkipSpaceSpecWrong)

/-- 'zzlaws_openai_b1.FnSkipSpaceMonotoneIdempotent': WHATEVER THE INPUT: true; the input reads as it did. -/
def fnSkipSpaceMonotoneIdempotentSpec : ChangeSpec := { name := "fnSkipSpaceMonotoneIdempotent", fn := fun _ => fun
  | [d1, d2, d3] => { results := [.lit (.bool true)], args := [d1, d2, d3] }
  | _ => none }
def fnSkipSpaceMonotoneIdempotentRow : OpenClaim := { program := "qxb6602081amods", sum := "c34435d44cfd412c109c7d5a94664804441c4fdeead71e9e479ec0601c66d4d1", func := "example.com/headroom/headroom/zzlaws_openai_b1.FnSkipSpaceMonotoneIdempotent", spec := "fnSkipSpaceMonotoneIdempotent", make := .lifted ["publicsums"], apart := false }
def FnSkipSpaceMonotoneIdempotentSaid : Prop := fnSkipSpaceMonotoneIdempotentRow.holds Trym.pinned (OpenSpec.ofChange fnSkipSpaceMonotoneIdempotentSpec)

/-- ITS FALSE NEIGHBOUR: 'it returns false'. Refute it at one input. -/
def fnSkipSpaceMonotoneIdempotentWrong : ChangeSpec := { name := "fnSkipSpaceMonotoneIdempotent", fn := fun _ => fun
  | [d1, d2, d3] => { results := [.lit (.bool false)], args := [d1, d2, d3] }
  | _ => none }
def FnSkipSpaceMonotoneIdempotentWrongFalsely : Prop := fnSkipSpaceMonotoneIdempotentRow.holds Trym.pinned (OpenSpec.ofChange fnSkipSpaceMonotoneIdempotentWrong)

/-- 'zzlaws_openai_b1.FnValueEndMatchesJSONGrammar': WHATEVER THE INPUT: true; the input reads as it did. -/
def fnValueEndMatchesJSONGrammarSpec : ChangeSpec := { name := "fnValueEndMatchesJSONGrammar", fn := fun _ => fun
  | [d1, d2] => { results := [.lit (.bool true)], args := [d1, d2] }
  | _ => none }
def fnValueEndMatchesJSONGrammarRow : OpenClaim := { program := "qxb6602081amods", sum := "c34435d44cfd412c109c7d5a94664804441c4fdeead71e9e479ec0601c66d4d1", func := "example.com/headroom/headroom/zzlaws_openai_b1.FnValueEndMatchesJSONGrammar", spec := "fnValueEndMatchesJSONGrammar", recurses := true, make := .lifted ["publicsums"], apart := false }
def FnValueEndMatchesJSONGrammarSaid : Prop := fnValueEndMatchesJSONGrammarRow.holds Trym.pinned (OpenSpec.ofChange fnValueEndMatchesJSONGrammarSpec)

/-- ITS FALSE NEIGHBOUR: 'it returns false'. Refute it at one input. -/
def fnValueEndMatchesJSONGrammarWrong : ChangeSpec := { name := "fnValueEndMatchesJSONGrammar", fn := fun _ => fun
  | [d1, d2] => { results := [.lit (.bool false)], args := [d1, d2] }
  | _ => none }
def FnValueEndMatchesJSONGrammarWrongFalsely : Prop := fnValueEndMatchesJSONGrammarRow.holds Trym.pinned (OpenSpec.ofChange fnValueEndMatchesJSONGrammarWrong)

/-- 'zzlaws_openai_b1.FnValueEndIgnoresPrefix': WHATEVER THE INPUT: true; the input reads as it did. -/
def fnValueEndIgnoresPrefixSpec : ChangeSpec := { name := "fnValueEndIgnoresPrefix", fn := fun _ => fun
  | [d1, d2, d3] => { results := [.lit (.bool true)], args := [d1, d2, d3] }
  | _ => none }
def fnValueEndIgnoresPrefixRow : OpenClaim := { program := "qxb6602081amods", sum := "c34435d44cfd412c109c7d5a94664804441c4fdeead71e9e479ec0601c66d4d1", func := "example.com/headroom/headroom/zzlaws_openai_b1.FnValueEndIgnoresPrefix", spec := "fnValueEndIgnoresPrefix", recurses := true, make := .lifted ["publicsums"], apart := false }
def FnValueEndIgnoresPrefixSaid : Prop := fnValueEndIgnoresPrefixRow.holds Trym.pinned (OpenSpec.ofChange fnValueEndIgnoresPrefixSpec)

/-- ITS FALSE NEIGHBOUR: 'it returns false'. Refute it at one input. -/
def fnValueEndIgnoresPrefixWrong : ChangeSpec := { name := "fnValueEndIgnoresPrefix", fn := fun _ => fun
  | [d1, d2, d3] => { results := [.lit (.bool false)], args := [d1, d2, d3] }
  | _ => none }
def FnValueEndIgnoresPrefixWrongFalsely : Prop := fnValueEndIgnoresPrefixRow.holds Trym.pinned (OpenSpec.ofChange fnValueEndIgnoresPrefixWrong)

end Rows
end Go.Proofs.Qxb6602081aMods
