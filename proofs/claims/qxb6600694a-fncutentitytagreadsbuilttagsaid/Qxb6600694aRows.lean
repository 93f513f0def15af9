/-
  No cell of these rows narrows 'for every input' (looked for: loops, veiled, ifaces, maps, wideKeys, modest, calm, conditions, laid).
  DERIVED. THE GIVEN ROWS OF THIS SEAT. 4 by the template 'for every input the law returns true; each argument reads behind the call as it read before'; 0 by the template 'total and deterministic' (their statements: Qxb6600694aTotals.lean).
  GIVEN WITH THE SEED: the statements are not yours to turn. If you find one false, say at which input.
  Laid BY PROGRAM, IN A SANDBOX (cutbox-rows.mjs): the forced cells as the released guide's own fill.sh prints them over the translation 90aa6d6db6b598c9… (all of the seat's roots in one cut). By AI agents, Wed Nov 11 2026. No macro, syntax, notation, axiom, sorry.
-/
import Derived.Test.Qxb6600694aChecked
import GoSem.Claim
import GoSem.ClaimJoined
import GoSem.ClaimMapViews
import Derived.JoinedTies
import Derived.KernelRfl
namespace Go.Proofs.Qxb6600694a
/- THE CELL 'sum', in the pinned program and in every row, IS THE sha256 OF THE DUMP (.gsa) THAT Qxb6600694aProg.lean LOADS. Nothing in Lean hashes anything: it is a label: what it is worth is what the hold of that sum in a sandbox is worth. -/
noncomputable def Try.pinned : Pinned := { name := "qxb6600694a", sum := "90aa6d6db6b598c9a96338d3d3ad14cea4370a7d4dbb5e4fd111fa3ea64d1b67", checked := Try.checked }
namespace Rows
def none {H : Type} : Left H := { results := [], args := [] }

/-- 'zzlaws_api_b1.FnNamesScopesAreDeclared': WHATEVER THE INPUT: true; the input reads as it did. -/
def fnNamesScopesAreDeclaredSpec : ChangeSpec := { name := "fnNamesScopesAreDeclared", fn := fun _ => fun
  | [d1, d2, d3, d4, d5, d6, d7, d8] => { results := [.lit (.bool true)], args := [d1, d2, d3, d4, d5, d6, d7, d8] }
  | _ => none }
def fnNamesScopesAreDeclaredRow : OpenClaim := { program := "qxb6600694a", sum := "90aa6d6db6b598c9a96338d3d3ad14cea4370a7d4dbb5e4fd111fa3ea64d1b67", func := "example.com/stateward/stateward/zzlaws_api_b1.FnNamesScopesAreDeclared", spec := "fnNamesScopesAreDeclared", apart := false }
def FnNamesScopesAreDeclaredSaid : Prop := fnNamesScopesAreDeclaredRow.holds Try.pinned (OpenSpec.ofChange fnNamesScopesAreDeclaredSpec)

/-- ITS FALSE NEIGHBOUR: 'it returns false'. Refute it at one input. -/
def fnNamesScopesAreDeclaredWrong : ChangeSpec := { name := "fnNamesScopesAreDeclared", fn := fun _ => fun
  | [d1, d2, d3, d4, d5, d6, d7, d8] => { results := [.lit (.bool false)], args := [d1, d2, d3, d4, d5, d6, d7, d8] }
  | _ => none }
def FnNamesScopesAreDeclaredWrongFalsely : Prop := fnNamesScopesAreDeclaredRow.holds Try.pinned (OpenSpec.ofChange fnNamesScopesAreDeclaredWrong)

/-- 'zzlaws_api_b1.FnNamesUniqueInScope': WHATEVER THE INPUT: true; the input reads as it did. -/
def fnNamesUniqueInScopeSpec : ChangeSpec := { name := "fnNamesUniqueInScope", fn := fun _ => fun
  | [d1, d2, d3, d4, d5, d6, d7, d8] => { results := [.lit (.bool true)], args := [d1, d2, d3, d4, d5, d6, d7, d8] }
  | _ => none }
def fnNamesUniqueInScopeRow : OpenClaim := { program := "qxb6600694a", sum := "90aa6d6db6b598c9a96338d3d3ad14cea4370a7d4dbb5e4fd111fa3ea64d1b67", func := "example.com/stateward/stateward/zzlaws_api_b1.FnNamesUniqueInScope", spec := "fnNamesUniqueInScope", apart := false }
def FnNamesUniqueInScopeSaid : Prop := fnNamesUniqueInScopeRow.holds Try.pinned (OpenSpec.ofChange fnNamesUniqueInScopeSpec)

/-- ITS FALSE NEIGHBOUR: 'it returns false'. Refute it at one input. -/
def fnNamesUniqueInScopeWrong : ChangeSpec := { name := "fnNamesUniqueInScope", fn := fun _ => fun
  | [d1, d2, d3, d4, d5, d6, d7, d8] => { results := [.lit (.bool false)], args := [d1, d2, d3, d4, d5, d6, d7, d8] }
  | _ => none }
def FnNamesUniqueInScopeWrongFalsely : Prop := fnNamesUniqueInScopeRow.holds Try.pinned (OpenSpec.ofChange fnNamesUniqueInScopeWrong)

/-- 'zzlaws_api_b1.FnCutEntityTagMatchesScanner': WHATEVER THE INPUT: true; the input reads as it did. -/
def fnCutEntityTagMatchesScannerSpec : ChangeSpec := { name := "fnCutEntityTagMatchesScanner", fn := fun _ => fun
  | [d] => { results := [.lit (.bool true)], args := [d] }
  | _ => none }
def fnCutEntityTagMatchesScannerRow : OpenClaim := { program := "qxb6600694a", sum := "90aa6d6db6b598c9a96338d3d3ad14cea4370a7d4dbb5e4fd111fa3ea64d1b67", func := "example.com/stateward/stateward/zzlaws_api_b1.FnCutEntityTagMatchesScanner", spec := "fnCutEntityTagMatchesScanner", inPlace := ["internal/bytealg.IndexByteString"], apart := false }
def FnCutEntityTagMatchesScannerSaid : Prop := fnCutEntityTagMatchesScannerRow.holds Try.pinned (OpenSpec.ofChange fnCutEntityTagMatchesScannerSpec)

/-- ITS FALSE NEIGHBOUR: 'it returns false'. Refute it at one input. -/
def fnCutEntityTagMatchesScannerWrong : ChangeSpec := { name := "fnCutEntityTagMatchesScanner", fn := fun _ => fun
  | [d] => { results := [.lit (.bool false)], args := [d] }
  | _ => none }
def FnCutEntityTagMatchesScannerWrongFalsely : Prop := fnCutEntityTagMatchesScannerRow.holds Try.pinned (OpenSpec.ofChange fnCutEntityTagMatchesScannerWrong)

/-- 'zzlaws_api_b1.FnCutEntityTagReadsBuiltTag': WHATEVER THE INPUT: true; the input reads as it did. -/
def fnCutEntityTagReadsBuiltTagSpec : ChangeSpec := { name := "fnCutEntityTagReadsBuiltTag", fn := fun _ => fun
  | [d1, d2, d3] => { results := [.lit (.bool true)], args := [d1, d2, d3] }
  | _ => none }
def fnCutEntityTagReadsBuiltTagRow : OpenClaim := { program := "qxb6600694a", sum := "90aa6d6db6b598c9a96338d3d3ad14cea4370a7d4dbb5e4fd111fa3ea64d1b67", func := "example.com/stateward/stateward/zzlaws_api_b1.FnCutEntityTagReadsBuiltTag", spec := "fnCutEntityTagReadsBuiltTag", inPlace := ["internal/bytealg.IndexByteString"], apart := false }
def FnCutEntityTagReadsBuiltTagSaid : Prop := fnCutEntityTagReadsBuiltTagRow.holds Try.pinned (OpenSpec.ofChange fnCutEntityTagReadsBuiltTagSpec)

/-- ITS FALSE NEIGHBOUR: 'it returns false'. Refute it at one input. -/
def fnCutEntityTagReadsBuiltTagWrong : ChangeSpec := { name := "fnCutEntityTagReadsBuiltTag", fn := fun _ => fun
  | [d1, d2, d3] => { results := [.lit (.bool false)], args := [d1, d2, d3] }
  | _ => none }
def FnCutEntityTagReadsBuiltTagWrongFalsely : Prop := fnCutEntityTagReadsBuiltTagRow.holds Try.pinned (OpenSpec.ofChange fnCutEntityTagReadsBuiltTagWrong)

end Rows
end Go.Proofs.Qxb6600694a
