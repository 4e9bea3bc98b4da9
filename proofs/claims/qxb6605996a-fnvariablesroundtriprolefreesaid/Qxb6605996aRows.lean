/-
  No cell of these rows narrows 'for every input' (looked for: loops, veiled, ifaces, maps, wideKeys, modest, calm, conditions, laid).
  DERIVED. THE GIVEN ROWS OF THIS SEAT. 4 by the template 'for every input the law returns true; each argument reads behind the call as it read before'; 0 by the template 'total and deterministic' (their statements: Qxb6605996aTotals.lean).
  GIVEN WITH THE SEED: the statements are not yours to turn. If you find one false, say at which input.
  Laid BY PROGRAM, IN A SANDBOX (cutbox-rows.mjs): the forced cells as the released guide's own fill.sh prints them over the translation db50a817ef75f890… (all of the seat's roots in one cut). By AI agents, Wed Nov 11 2026. No macro, syntax, notation, axiom, sorry.
-/
import Derived.Test.Qxb6605996aChecked
import GoSem.Claim
import GoSem.ClaimJoined
import GoSem.ClaimMapViews
import Derived.JoinedTies
import Derived.KernelRfl
namespace Go.Proofs.Qxb6605996a
/- THE CELL 'sum', in the pinned program and in every row, IS THE sha256 OF THE DUMP (.gsa) THAT Qxb6605996aProg.lean LOADS. Nothing in Lean hashes anything: it is a label: what it is worth is what the hold of that sum in a sandbox is worth. -/
noncomputable def Try.pinned : Pinned := { name := "qxb6605996a", sum := "db50a817ef75f8905b38fea295560e92fe423c82d7292a4199fd3fef2b96939f", checked := Try.checked }
namespace Rows
def none {H : Type} : Left H := { results := [], args := [] }

/-- 'zzlaws_internal_registry_b1.FnVariablesExact': WHATEVER THE INPUT: true; the input reads as it did. -/
def fnVariablesExactSpec : ChangeSpec := { name := "fnVariablesExact", fn := fun _ => fun
  | [d1, d2, d3, d4] => { results := [.lit (.bool true)], args := [d1, d2, d3, d4] }
  | _ => none }
def fnVariablesExactRow : OpenClaim := { program := "qxb6605996a", sum := "db50a817ef75f8905b38fea295560e92fe423c82d7292a4199fd3fef2b96939f", func := "example.com/humble-token/humble-token/zzlaws_internal_registry_b1.FnVariablesExact", spec := "fnVariablesExact", apart := false }
def FnVariablesExactSaid : Prop := fnVariablesExactRow.holds Try.pinned (OpenSpec.ofChange fnVariablesExactSpec)

/-- ITS FALSE NEIGHBOUR: 'it returns false'. Refute it at one input. -/
def fnVariablesExactWrong : ChangeSpec := { name := "fnVariablesExact", fn := fun _ => fun
  | [d1, d2, d3, d4] => { results := [.lit (.bool false)], args := [d1, d2, d3, d4] }
  | _ => none }
def FnVariablesExactWrongFalsely : Prop := fnVariablesExactRow.holds Try.pinned (OpenSpec.ofChange fnVariablesExactWrong)

/-- 'zzlaws_internal_registry_b1.FnVariablesRoundTripRoleFree': WHATEVER THE INPUT: true; the input reads as it did. -/
def fnVariablesRoundTripRoleFreeSpec : ChangeSpec := { name := "fnVariablesRoundTripRoleFree", fn := fun _ => fun
  | [d1, d2, d3, d4, d5] => { results := [.lit (.bool true)], args := [d1, d2, d3, d4, d5] }
  | _ => none }
def fnVariablesRoundTripRoleFreeRow : OpenClaim := { program := "qxb6605996a", sum := "db50a817ef75f8905b38fea295560e92fe423c82d7292a4199fd3fef2b96939f", func := "example.com/humble-token/humble-token/zzlaws_internal_registry_b1.FnVariablesRoundTripRoleFree", spec := "fnVariablesRoundTripRoleFree", apart := false }
def FnVariablesRoundTripRoleFreeSaid : Prop := fnVariablesRoundTripRoleFreeRow.holds Try.pinned (OpenSpec.ofChange fnVariablesRoundTripRoleFreeSpec)

/-- ITS FALSE NEIGHBOUR: 'it returns false'. Refute it at one input. -/
def fnVariablesRoundTripRoleFreeWrong : ChangeSpec := { name := "fnVariablesRoundTripRoleFree", fn := fun _ => fun
  | [d1, d2, d3, d4, d5] => { results := [.lit (.bool false)], args := [d1, d2, d3, d4, d5] }
  | _ => none }
def FnVariablesRoundTripRoleFreeWrongFalsely : Prop := fnVariablesRoundTripRoleFreeRow.holds Try.pinned (OpenSpec.ofChange fnVariablesRoundTripRoleFreeWrong)

/-- 'zzlaws_internal_registry_b1.FnPlaceSameExactlyWhenNamesSame': WHATEVER THE INPUT: true; the input reads as it did. -/
def fnPlaceSameExactlyWhenNamesSameSpec : ChangeSpec := { name := "fnPlaceSameExactlyWhenNamesSame", fn := fun _ => fun
  | [d1, d2, d3, d4, d5, d6, d7, d8] => { results := [.lit (.bool true)], args := [d1, d2, d3, d4, d5, d6, d7, d8] }
  | _ => none }
def fnPlaceSameExactlyWhenNamesSameRow : OpenClaim := { program := "qxb6605996a", sum := "db50a817ef75f8905b38fea295560e92fe423c82d7292a4199fd3fef2b96939f", func := "example.com/humble-token/humble-token/zzlaws_internal_registry_b1.FnPlaceSameExactlyWhenNamesSame", spec := "fnPlaceSameExactlyWhenNamesSame", apart := false }
def FnPlaceSameExactlyWhenNamesSameSaid : Prop := fnPlaceSameExactlyWhenNamesSameRow.holds Try.pinned (OpenSpec.ofChange fnPlaceSameExactlyWhenNamesSameSpec)

/-- ITS FALSE NEIGHBOUR: 'it returns false'. Refute it at one input. -/
def fnPlaceSameExactlyWhenNamesSameWrong : ChangeSpec := { name := "fnPlaceSameExactlyWhenNamesSame", fn := fun _ => fun
  | [d1, d2, d3, d4, d5, d6, d7, d8] => { results := [.lit (.bool false)], args := [d1, d2, d3, d4, d5, d6, d7, d8] }
  | _ => none }
def FnPlaceSameExactlyWhenNamesSameWrongFalsely : Prop := fnPlaceSameExactlyWhenNamesSameRow.holds Try.pinned (OpenSpec.ofChange fnPlaceSameExactlyWhenNamesSameWrong)

/-- 'zzlaws_internal_registry_b1.FnPlaceOrdersByName': WHATEVER THE INPUT: true; the input reads as it did. -/
def fnPlaceOrdersByNameSpec : ChangeSpec := { name := "fnPlaceOrdersByName", fn := fun _ => fun
  | [d1, d2, d3, d4, d5, d6, d7, d8] => { results := [.lit (.bool true)], args := [d1, d2, d3, d4, d5, d6, d7, d8] }
  | _ => none }
def fnPlaceOrdersByNameRow : OpenClaim := { program := "qxb6605996a", sum := "db50a817ef75f8905b38fea295560e92fe423c82d7292a4199fd3fef2b96939f", func := "example.com/humble-token/humble-token/zzlaws_internal_registry_b1.FnPlaceOrdersByName", spec := "fnPlaceOrdersByName", apart := false }
def FnPlaceOrdersByNameSaid : Prop := fnPlaceOrdersByNameRow.holds Try.pinned (OpenSpec.ofChange fnPlaceOrdersByNameSpec)

/-- ITS FALSE NEIGHBOUR: 'it returns false'. Refute it at one input. -/
def fnPlaceOrdersByNameWrong : ChangeSpec := { name := "fnPlaceOrdersByName", fn := fun _ => fun
  | [d1, d2, d3, d4, d5, d6, d7, d8] => { results := [.lit (.bool false)], args := [d1, d2, d3, d4, d5, d6, d7, d8] }
  | _ => none }
def FnPlaceOrdersByNameWrongFalsely : Prop := fnPlaceOrdersByNameRow.holds Try.pinned (OpenSpec.ofChange fnPlaceOrdersByNameWrong)

end Rows
end Go.Proofs.Qxb6605996a
