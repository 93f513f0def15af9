/-
  No cell of these rows narrows 'for every input' (looked for: loops, veiled, ifaces, maps, wideKeys, modest, calm, conditions, laid).
  DERIVED. THE GIVEN ROWS OF THIS SEAT. 5 by the template 'for every input the law returns true; each argument reads behind the call as it read before'; 0 by the template 'total and deterministic' (their statements: Qxb6600834aTotals.lean).
  GIVEN WITH THE SEED: the statements are not yours to turn. If you find one false, say at which input.
  Laid BY PROGRAM, IN A SANDBOX (cutbox-rows.mjs): the forced cells as the released guide's own fill.sh prints them over the translation 7ae69a663ccbd6ba… (all of the seat's roots in one cut). By AI agents, Wed Nov 11 2026. No macro, syntax, notation, axiom, sorry.
-/
import Derived.Test.Qxb6600834aChecked
import GoSem.Claim
import GoSem.ClaimJoined
import GoSem.ClaimMapViews
import Derived.JoinedTies
import Derived.KernelRfl
namespace Go.Proofs.Qxb6600834a
/- THE CELL 'sum', in the pinned program and in every row, IS THE sha256 OF THE DUMP (.gsa) THAT Qxb6600834aProg.lean LOADS. Nothing in Lean hashes anything: it is a label: what it is worth is what the hold of that sum in a sandbox is worth. -/
noncomputable def Try.pinned : Pinned := { name := "qxb6600834a", sum := "7ae69a663ccbd6bafa02beacfa010577d53e279bd48361b42a06d6783b7c04c9", checked := Try.checked }
namespace Rows
def none {H : Type} : Left H := { results := [], args := [] }

/-- 'zzlaws_internal_report_b1.FnPlaceOfIsFirstIndexByBackwardScan': WHATEVER THE INPUT: true; the input reads as it did. -/
def fnPlaceOfIsFirstIndexByBackwardScanSpec : ChangeSpec := { name := "fnPlaceOfIsFirstIndexByBackwardScan", fn := fun _ => fun
  | [d1, d2] => { results := [.lit (.bool true)], args := [d1, d2] }
  | _ => none }
def fnPlaceOfIsFirstIndexByBackwardScanRow : OpenClaim := { program := "qxb6600834a", sum := "7ae69a663ccbd6bafa02beacfa010577d53e279bd48361b42a06d6783b7c04c9", func := "example.com/fabricscope/fabricscope/zzlaws_internal_report_b1.FnPlaceOfIsFirstIndexByBackwardScan", spec := "fnPlaceOfIsFirstIndexByBackwardScan", apart := false }
def FnPlaceOfIsFirstIndexByBackwardScanSaid : Prop := fnPlaceOfIsFirstIndexByBackwardScanRow.holds Try.pinned (OpenSpec.ofChange fnPlaceOfIsFirstIndexByBackwardScanSpec)

/-- ITS FALSE NEIGHBOUR: 'it returns false'. Refute it at one input. -/
def fnPlaceOfIsFirstIndexByBackwardScanWrong : ChangeSpec := { name := "fnPlaceOfIsFirstIndexByBackwardScan", fn := fun _ => fun
  | [d1, d2] => { results := [.lit (.bool false)], args := [d1, d2] }
  | _ => none }
def FnPlaceOfIsFirstIndexByBackwardScanWrongFalsely : Prop := fnPlaceOfIsFirstIndexByBackwardScanRow.holds Try.pinned (OpenSpec.ofChange fnPlaceOfIsFirstIndexByBackwardScanWrong)

/-- 'zzlaws_internal_report_b1.FnPlaceOfOverConcatenation': WHATEVER THE INPUT: true; the input reads as it did. -/
def fnPlaceOfOverConcatenationSpec : ChangeSpec := { name := "fnPlaceOfOverConcatenation", fn := fun _ => fun
  | [d1, d2, d3] => { results := [.lit (.bool true)], args := [d1, d2, d3] }
  | _ => none }
def fnPlaceOfOverConcatenationRow : OpenClaim := { program := "qxb6600834a", sum := "7ae69a663ccbd6bafa02beacfa010577d53e279bd48361b42a06d6783b7c04c9", func := "example.com/fabricscope/fabricscope/zzlaws_internal_report_b1.FnPlaceOfOverConcatenation", spec := "fnPlaceOfOverConcatenation", apart := false }
def FnPlaceOfOverConcatenationSaid : Prop := fnPlaceOfOverConcatenationRow.holds Try.pinned (OpenSpec.ofChange fnPlaceOfOverConcatenationSpec)

/-- ITS FALSE NEIGHBOUR: 'it returns false'. Refute it at one input. -/
def fnPlaceOfOverConcatenationWrong : ChangeSpec := { name := "fnPlaceOfOverConcatenation", fn := fun _ => fun
  | [d1, d2, d3] => { results := [.lit (.bool false)], args := [d1, d2, d3] }
  | _ => none }
def FnPlaceOfOverConcatenationWrongFalsely : Prop := fnPlaceOfOverConcatenationRow.holds Try.pinned (OpenSpec.ofChange fnPlaceOfOverConcatenationWrong)

/-- 'zzlaws_internal_report_b1.FnPatternMatchesAgreesWithPlacementModel': WHATEVER THE INPUT: true; the input reads as it did. -/
def fnPatternMatchesAgreesWithPlacementModelSpec : ChangeSpec := { name := "fnPatternMatchesAgreesWithPlacementModel", fn := fun _ => fun
  | [d1, d2] => { results := [.lit (.bool true)], args := [d1, d2] }
  | _ => none }
def fnPatternMatchesAgreesWithPlacementModelRow : OpenClaim := { program := "qxb6600834a", sum := "7ae69a663ccbd6bafa02beacfa010577d53e279bd48361b42a06d6783b7c04c9", func := "example.com/fabricscope/fabricscope/zzlaws_internal_report_b1.FnPatternMatchesAgreesWithPlacementModel", spec := "fnPatternMatchesAgreesWithPlacementModel", inPlace := ["internal/bytealg.IndexByteString", "internal/bytealg.IndexString"], named := ["internal/bytealg.MaxLen"], apart := false }
def FnPatternMatchesAgreesWithPlacementModelSaid : Prop := fnPatternMatchesAgreesWithPlacementModelRow.holds Try.pinned (OpenSpec.ofChange fnPatternMatchesAgreesWithPlacementModelSpec)

/-- ITS FALSE NEIGHBOUR: 'it returns false'. Refute it at one input. -/
def fnPatternMatchesAgreesWithPlacementModelWrong : ChangeSpec := { name := "fnPatternMatchesAgreesWithPlacementModel", fn := fun _ => fun
  | [d1, d2] => { results := [.lit (.bool false)], args := [d1, d2] }
  | _ => none }
def FnPatternMatchesAgreesWithPlacementModelWrongFalsely : Prop := fnPatternMatchesAgreesWithPlacementModelRow.holds Try.pinned (OpenSpec.ofChange fnPatternMatchesAgreesWithPlacementModelWrong)

/-- 'zzlaws_internal_report_b1.FnPatternMatchesEveryFilling': WHATEVER THE INPUT: true; the input reads as it did. -/
def fnPatternMatchesEveryFillingSpec : ChangeSpec := { name := "fnPatternMatchesEveryFilling", fn := fun _ => fun
  | [d1, d2] => { results := [.lit (.bool true)], args := [d1, d2] }
  | _ => none }
def fnPatternMatchesEveryFillingRow : OpenClaim := { program := "qxb6600834a", sum := "7ae69a663ccbd6bafa02beacfa010577d53e279bd48361b42a06d6783b7c04c9", func := "example.com/fabricscope/fabricscope/zzlaws_internal_report_b1.FnPatternMatchesEveryFilling", spec := "fnPatternMatchesEveryFilling", inPlace := ["internal/bytealg.IndexByteString", "internal/bytealg.IndexString"], named := ["internal/bytealg.MaxLen"], apart := false }
def FnPatternMatchesEveryFillingSaid : Prop := fnPatternMatchesEveryFillingRow.holds Try.pinned (OpenSpec.ofChange fnPatternMatchesEveryFillingSpec)

/-- ITS FALSE NEIGHBOUR: 'it returns false'. Refute it at one input. -/
def fnPatternMatchesEveryFillingWrong : ChangeSpec := { name := "fnPatternMatchesEveryFilling", fn := fun _ => fun
  | [d1, d2] => { results := [.lit (.bool false)], args := [d1, d2] }
  | _ => none }
def FnPatternMatchesEveryFillingWrongFalsely : Prop := fnPatternMatchesEveryFillingRow.holds Try.pinned (OpenSpec.ofChange fnPatternMatchesEveryFillingWrong)

/-- 'zzlaws_internal_report_b1.FnPatternMatchesMirrored': WHATEVER THE INPUT: true; the input reads as it did. -/
def fnPatternMatchesMirroredSpec : ChangeSpec := { name := "fnPatternMatchesMirrored", fn := fun _ => fun
  | [d1, d2] => { results := [.lit (.bool true)], args := [d1, d2] }
  | _ => none }
def fnPatternMatchesMirroredRow : OpenClaim := { program := "qxb6600834a", sum := "7ae69a663ccbd6bafa02beacfa010577d53e279bd48361b42a06d6783b7c04c9", func := "example.com/fabricscope/fabricscope/zzlaws_internal_report_b1.FnPatternMatchesMirrored", spec := "fnPatternMatchesMirrored", inPlace := ["internal/bytealg.IndexByteString", "internal/bytealg.IndexString"], named := ["internal/bytealg.MaxLen"], apart := false }
def FnPatternMatchesMirroredSaid : Prop := fnPatternMatchesMirroredRow.holds Try.pinned (OpenSpec.ofChange fnPatternMatchesMirroredSpec)

/-- ITS FALSE NEIGHBOUR: 'it returns false'. Refute it at one input. -/
def fnPatternMatchesMirroredWrong : ChangeSpec := { name := "fnPatternMatchesMirrored", fn := fun _ => fun
  | [d1, d2] => { results := [.lit (.bool false)], args := [d1, d2] }
  | _ => none }
def FnPatternMatchesMirroredWrongFalsely : Prop := fnPatternMatchesMirroredRow.holds Try.pinned (OpenSpec.ofChange fnPatternMatchesMirroredWrong)

end Rows
end Go.Proofs.Qxb6600834a
