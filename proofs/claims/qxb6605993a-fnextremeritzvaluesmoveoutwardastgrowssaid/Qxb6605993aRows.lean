/-
  No cell of these rows narrows 'for every input' (looked for: loops, veiled, ifaces, maps, wideKeys, modest, calm, conditions, laid).
  DERIVED. THE GIVEN ROWS OF THIS SEAT. 5 by the template 'for every input the law returns true; each argument reads behind the call as it read before'; 0 by the template 'total and deterministic' (their statements: Qxb6605993aTotals.lean).
  GIVEN WITH THE SEED: the statements are not yours to turn. If you find one false, say at which input.
  Laid BY PROGRAM, IN A SANDBOX (cutbox-rows.mjs): the forced cells as the released guide's own fill.sh prints them over the translation 30fbd57dd19b0bd9… (all of the seat's roots in one cut). By AI agents, Wed Nov 11 2026. No macro, syntax, notation, axiom, sorry.
-/
import Derived.Test.Qxb6605993aChecked
import GoSem.Claim
import GoSem.ClaimJoined
import GoSem.ClaimMapViews
import Derived.JoinedTies
import Derived.KernelRfl
namespace Go.Proofs.Qxb6605993a
/- THE CELL 'sum', in the pinned program and in every row, IS THE sha256 OF THE DUMP (.gsa) THAT Qxb6605993aProg.lean LOADS. Nothing in Lean hashes anything: it is a label: what it is worth is what the hold of that sum in a sandbox is worth. -/
noncomputable def Try.pinned : Pinned := { name := "qxb6605993a", sum := "30fbd57dd19b0bd979195f987c9dd3563113892707326d571975bb6b9641d74a", checked := Try.checked }
namespace Rows
def none {H : Type} : Left H := { results := [], args := [] }

/-- 'zzlaws_root_b1.FnDecisionToleranceRisesFromItsFloor': WHATEVER THE INPUT: true; the input reads as it did. -/
def fnDecisionToleranceRisesFromItsFloorSpec : ChangeSpec := { name := "fnDecisionToleranceRisesFromItsFloor", fn := fun _ => fun
  | [d1, d2] => { results := [.lit (.bool true)], args := [d1, d2] }
  | _ => none }
def fnDecisionToleranceRisesFromItsFloorRow : OpenClaim := { program := "qxb6605993a", sum := "30fbd57dd19b0bd979195f987c9dd3563113892707326d571975bb6b9641d74a", func := "example.com/surefoot/surefoot/zzlaws_root_b1.FnDecisionToleranceRisesFromItsFloor", spec := "fnDecisionToleranceRisesFromItsFloor", apart := false }
def FnDecisionToleranceRisesFromItsFloorSaid : Prop := fnDecisionToleranceRisesFromItsFloorRow.holds Try.pinned (OpenSpec.ofChange fnDecisionToleranceRisesFromItsFloorSpec)

/-- ITS FALSE NEIGHBOUR: 'it returns false'. Refute it at one input. -/
def fnDecisionToleranceRisesFromItsFloorWrong : ChangeSpec := { name := "fnDecisionToleranceRisesFromItsFloor", fn := fun _ => fun
  | [d1, d2] => { results := [.lit (.bool false)], args := [d1, d2] }
  | _ => none }
def FnDecisionToleranceRisesFromItsFloorWrongFalsely : Prop := fnDecisionToleranceRisesFromItsFloorRow.holds Try.pinned (OpenSpec.ofChange fnDecisionToleranceRisesFromItsFloorWrong)

/-- 'zzlaws_root_b1.FnExtremeRitzValuesBetweenRayleighAndGershgorin': WHATEVER THE INPUT: true; the input reads as it did. -/
def fnExtremeRitzValuesBetweenRayleighAndGershgorinSpec : ChangeSpec := { name := "fnExtremeRitzValuesBetweenRayleighAndGershgorin", fn := fun _ => fun
  | [d1, d2] => { results := [.lit (.bool true)], args := [d1, d2] }
  | _ => none }
def fnExtremeRitzValuesBetweenRayleighAndGershgorinRow : OpenClaim := { program := "qxb6605993a", sum := "30fbd57dd19b0bd979195f987c9dd3563113892707326d571975bb6b9641d74a", func := "example.com/surefoot/surefoot/zzlaws_root_b1.FnExtremeRitzValuesBetweenRayleighAndGershgorin", spec := "fnExtremeRitzValuesBetweenRayleighAndGershgorin", inPlace := ["math.Float64bits", "math.Float64frombits", "math.sqrt"], unfollowed := true, recurses := true, apart := false }
def FnExtremeRitzValuesBetweenRayleighAndGershgorinSaid : Prop := fnExtremeRitzValuesBetweenRayleighAndGershgorinRow.holds Try.pinned (OpenSpec.ofChange fnExtremeRitzValuesBetweenRayleighAndGershgorinSpec)

/-- ITS FALSE NEIGHBOUR: 'it returns false'. Refute it at one input. -/
def fnExtremeRitzValuesBetweenRayleighAndGershgorinWrong : ChangeSpec := { name := "fnExtremeRitzValuesBetweenRayleighAndGershgorin", fn := fun _ => fun
  | [d1, d2] => { results := [.lit (.bool false)], args := [d1, d2] }
  | _ => none }
def FnExtremeRitzValuesBetweenRayleighAndGershgorinWrongFalsely : Prop := fnExtremeRitzValuesBetweenRayleighAndGershgorinRow.holds Try.pinned (OpenSpec.ofChange fnExtremeRitzValuesBetweenRayleighAndGershgorinWrong)

/-- 'zzlaws_root_b1.FnExtremeRitzValuesMoveOutwardAsTGrows': WHATEVER THE INPUT: true; the input reads as it did. -/
def fnExtremeRitzValuesMoveOutwardAsTGrowsSpec : ChangeSpec := { name := "fnExtremeRitzValuesMoveOutwardAsTGrows", fn := fun _ => fun
  | [d1, d2] => { results := [.lit (.bool true)], args := [d1, d2] }
  | _ => none }
def fnExtremeRitzValuesMoveOutwardAsTGrowsRow : OpenClaim := { program := "qxb6605993a", sum := "30fbd57dd19b0bd979195f987c9dd3563113892707326d571975bb6b9641d74a", func := "example.com/surefoot/surefoot/zzlaws_root_b1.FnExtremeRitzValuesMoveOutwardAsTGrows", spec := "fnExtremeRitzValuesMoveOutwardAsTGrows", inPlace := ["math.Float64bits", "math.Float64frombits", "math.sqrt"], unfollowed := true, recurses := true, apart := false }
def FnExtremeRitzValuesMoveOutwardAsTGrowsSaid : Prop := fnExtremeRitzValuesMoveOutwardAsTGrowsRow.holds Try.pinned (OpenSpec.ofChange fnExtremeRitzValuesMoveOutwardAsTGrowsSpec)

/-- ITS FALSE NEIGHBOUR: 'it returns false'. Refute it at one input. -/
def fnExtremeRitzValuesMoveOutwardAsTGrowsWrong : ChangeSpec := { name := "fnExtremeRitzValuesMoveOutwardAsTGrows", fn := fun _ => fun
  | [d1, d2] => { results := [.lit (.bool false)], args := [d1, d2] }
  | _ => none }
def FnExtremeRitzValuesMoveOutwardAsTGrowsWrongFalsely : Prop := fnExtremeRitzValuesMoveOutwardAsTGrowsRow.holds Try.pinned (OpenSpec.ofChange fnExtremeRitzValuesMoveOutwardAsTGrowsWrong)

/-- 'zzlaws_root_b1.FnTridiagonalEigenvectorIsUnitOfRightLength': WHATEVER THE INPUT: true; the input reads as it did. -/
def fnTridiagonalEigenvectorIsUnitOfRightLengthSpec : ChangeSpec := { name := "fnTridiagonalEigenvectorIsUnitOfRightLength", fn := fun _ => fun
  | [d1, d2, d3] => { results := [.lit (.bool true)], args := [d1, d2, d3] }
  | _ => none }
def fnTridiagonalEigenvectorIsUnitOfRightLengthRow : OpenClaim := { program := "qxb6605993a", sum := "30fbd57dd19b0bd979195f987c9dd3563113892707326d571975bb6b9641d74a", func := "example.com/surefoot/surefoot/zzlaws_root_b1.FnTridiagonalEigenvectorIsUnitOfRightLength", spec := "fnTridiagonalEigenvectorIsUnitOfRightLength", inPlace := ["math.Float64bits", "math.Float64frombits", "math.sqrt"], unfollowed := true, recurses := true, apart := false }
def FnTridiagonalEigenvectorIsUnitOfRightLengthSaid : Prop := fnTridiagonalEigenvectorIsUnitOfRightLengthRow.holds Try.pinned (OpenSpec.ofChange fnTridiagonalEigenvectorIsUnitOfRightLengthSpec)

/-- ITS FALSE NEIGHBOUR: 'it returns false'. Refute it at one input. -/
def fnTridiagonalEigenvectorIsUnitOfRightLengthWrong : ChangeSpec := { name := "fnTridiagonalEigenvectorIsUnitOfRightLength", fn := fun _ => fun
  | [d1, d2, d3] => { results := [.lit (.bool false)], args := [d1, d2, d3] }
  | _ => none }
def FnTridiagonalEigenvectorIsUnitOfRightLengthWrongFalsely : Prop := fnTridiagonalEigenvectorIsUnitOfRightLengthRow.holds Try.pinned (OpenSpec.ofChange fnTridiagonalEigenvectorIsUnitOfRightLengthWrong)

/-- 'zzlaws_root_b1.FnTridiagonalEigenvectorOfDiagonalPicksItsCoordinate': WHATEVER THE INPUT: true; the input reads as it did. -/
def fnTridiagonalEigenvectorOfDiagonalPicksItsCoordinateSpec : ChangeSpec := { name := "fnTridiagonalEigenvectorOfDiagonalPicksItsCoordinate", fn := fun _ => fun
  | [d1, d2, d3] => { results := [.lit (.bool true)], args := [d1, d2, d3] }
  | _ => none }
def fnTridiagonalEigenvectorOfDiagonalPicksItsCoordinateRow : OpenClaim := { program := "qxb6605993a", sum := "30fbd57dd19b0bd979195f987c9dd3563113892707326d571975bb6b9641d74a", func := "example.com/surefoot/surefoot/zzlaws_root_b1.FnTridiagonalEigenvectorOfDiagonalPicksItsCoordinate", spec := "fnTridiagonalEigenvectorOfDiagonalPicksItsCoordinate", inPlace := ["math.Float64bits", "math.Float64frombits", "math.sqrt"], unfollowed := true, recurses := true, apart := false }
def FnTridiagonalEigenvectorOfDiagonalPicksItsCoordinateSaid : Prop := fnTridiagonalEigenvectorOfDiagonalPicksItsCoordinateRow.holds Try.pinned (OpenSpec.ofChange fnTridiagonalEigenvectorOfDiagonalPicksItsCoordinateSpec)

/-- ITS FALSE NEIGHBOUR: 'it returns false'. Refute it at one input. -/
def fnTridiagonalEigenvectorOfDiagonalPicksItsCoordinateWrong : ChangeSpec := { name := "fnTridiagonalEigenvectorOfDiagonalPicksItsCoordinate", fn := fun _ => fun
  | [d1, d2, d3] => { results := [.lit (.bool false)], args := [d1, d2, d3] }
  | _ => none }
def FnTridiagonalEigenvectorOfDiagonalPicksItsCoordinateWrongFalsely : Prop := fnTridiagonalEigenvectorOfDiagonalPicksItsCoordinateRow.holds Try.pinned (OpenSpec.ofChange fnTridiagonalEigenvectorOfDiagonalPicksItsCoordinateWrong)

end Rows
end Go.Proofs.Qxb6605993a
