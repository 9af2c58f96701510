/-
  No cell of these rows narrows 'for every input' (looked for: loops, veiled, ifaces, maps, wideKeys, modest, calm, conditions, laid).
  DERIVED. THE GIVEN ROWS OF THIS SEAT. 4 by the template 'for every input the law returns true; each argument reads behind the call as it read before'; 0 by the template 'total and deterministic' (their statements: Qxb6616680aTotals.lean).
  GIVEN WITH THE SEED: the statements are not yours to turn. If you find one false, say at which input.
  Laid BY PROGRAM, IN A SANDBOX (cutbox-rows.mjs): the forced cells as the released guide's own fill.sh prints them over the translation 9672babcd0945376… (all of the seat's roots in one cut). By AI agents, Wed Nov 11 2026. No macro, syntax, notation, axiom, sorry.
-/
import Derived.Test.Qxb6616680aChecked
import GoSem.Claim
import GoSem.ClaimJoined
import GoSem.ClaimMapViews
import Derived.JoinedTies
import Derived.KernelRfl
namespace Go.Proofs.Qxb6616680a
/- THE CELL 'sum', in the pinned program and in every row, IS THE sha256 OF THE DUMP (.gsa) THAT Qxb6616680aProg.lean LOADS. Nothing in Lean hashes anything: it is a label: what it is worth is what the hold of that sum in a sandbox is worth. -/
noncomputable def Try.pinned : Pinned := { name := "qxb6616680a", sum := "9672babcd09453763046030df06b9825d13b36d0385e2a3535c1b32ffbf64e01", checked := Try.checked }
namespace Rows
def none {H : Type} : Left H := { results := [], args := [] }

/-- 'zzlaws_internal_schema_b1.FnStateSetClearYieldsFreshState': WHATEVER THE INPUT: true; the input reads as it did. -/
def fnStateSetClearYieldsFreshStateSpec : ChangeSpec := { name := "fnStateSetClearYieldsFreshState", fn := fun _ => fun
  | [d1, d2, d3] => { results := [.lit (.bool true)], args := [d1, d2, d3] }
  | _ => none }
def fnStateSetClearYieldsFreshStateRow : OpenClaim := { program := "qxb6616680a", sum := "9672babcd09453763046030df06b9825d13b36d0385e2a3535c1b32ffbf64e01", func := "example.com/yangway/yangway/zzlaws_internal_schema_b1.FnStateSetClearYieldsFreshState", spec := "fnStateSetClearYieldsFreshState", apart := false }
def FnStateSetClearYieldsFreshStateSaid : Prop := fnStateSetClearYieldsFreshStateRow.holds Try.pinned (OpenSpec.ofChange fnStateSetClearYieldsFreshStateSpec)

/-- ITS FALSE NEIGHBOUR: 'it returns false'. Refute it at one input. -/
def fnStateSetClearYieldsFreshStateWrong : ChangeSpec := { name := "fnStateSetClearYieldsFreshState", fn := fun _ => fun
  | [d1, d2, d3] => { results := [.lit (.bool false)], args := [d1, d2, d3] }
  | _ => none }
def FnStateSetClearYieldsFreshStateWrongFalsely : Prop := fnStateSetClearYieldsFreshStateRow.holds Try.pinned (OpenSpec.ofChange fnStateSetClearYieldsFreshStateWrong)

/-- 'zzlaws_internal_schema_b1.FnStateSetClearZeroesSharedTableInPlace': WHATEVER THE INPUT: true; the input reads as it did. -/
def fnStateSetClearZeroesSharedTableInPlaceSpec : ChangeSpec := { name := "fnStateSetClearZeroesSharedTableInPlace", fn := fun _ => fun
  | [d1, d2, d3, d4, d5] => { results := [.lit (.bool true)], args := [d1, d2, d3, d4, d5] }
  | _ => none }
def fnStateSetClearZeroesSharedTableInPlaceRow : OpenClaim := { program := "qxb6616680a", sum := "9672babcd09453763046030df06b9825d13b36d0385e2a3535c1b32ffbf64e01", func := "example.com/yangway/yangway/zzlaws_internal_schema_b1.FnStateSetClearZeroesSharedTableInPlace", spec := "fnStateSetClearZeroesSharedTableInPlace", apart := false }
def FnStateSetClearZeroesSharedTableInPlaceSaid : Prop := fnStateSetClearZeroesSharedTableInPlaceRow.holds Try.pinned (OpenSpec.ofChange fnStateSetClearZeroesSharedTableInPlaceSpec)

/-- ITS FALSE NEIGHBOUR: 'it returns false'. Refute it at one input. -/
def fnStateSetClearZeroesSharedTableInPlaceWrong : ChangeSpec := { name := "fnStateSetClearZeroesSharedTableInPlace", fn := fun _ => fun
  | [d1, d2, d3, d4, d5] => { results := [.lit (.bool false)], args := [d1, d2, d3, d4, d5] }
  | _ => none }
def FnStateSetClearZeroesSharedTableInPlaceWrongFalsely : Prop := fnStateSetClearZeroesSharedTableInPlaceRow.holds Try.pinned (OpenSpec.ofChange fnStateSetClearZeroesSharedTableInPlaceWrong)

/-- 'zzlaws_internal_schema_b1.FnInstanceRequiredNeedsRequireInstanceAndReferenceKind': WHATEVER THE INPUT: true; the input reads as it did. -/
def fnInstanceRequiredNeedsRequireInstanceAndReferenceKindSpec : ChangeSpec := { name := "fnInstanceRequiredNeedsRequireInstanceAndReferenceKind", fn := fun _ => fun
  | [d1, d2, d3, d4, d5, d6, d7] => { results := [.lit (.bool true)], args := [d1, d2, d3, d4, d5, d6, d7] }
  | _ => none }
def fnInstanceRequiredNeedsRequireInstanceAndReferenceKindRow : OpenClaim := { program := "qxb6616680a", sum := "9672babcd09453763046030df06b9825d13b36d0385e2a3535c1b32ffbf64e01", func := "example.com/yangway/yangway/zzlaws_internal_schema_b1.FnInstanceRequiredNeedsRequireInstanceAndReferenceKind", spec := "fnInstanceRequiredNeedsRequireInstanceAndReferenceKind", apart := false }
def FnInstanceRequiredNeedsRequireInstanceAndReferenceKindSaid : Prop := fnInstanceRequiredNeedsRequireInstanceAndReferenceKindRow.holds Try.pinned (OpenSpec.ofChange fnInstanceRequiredNeedsRequireInstanceAndReferenceKindSpec)

/-- ITS FALSE NEIGHBOUR: 'it returns false'. Refute it at one input. -/
def fnInstanceRequiredNeedsRequireInstanceAndReferenceKindWrong : ChangeSpec := { name := "fnInstanceRequiredNeedsRequireInstanceAndReferenceKind", fn := fun _ => fun
  | [d1, d2, d3, d4, d5, d6, d7] => { results := [.lit (.bool false)], args := [d1, d2, d3, d4, d5, d6, d7] }
  | _ => none }
def FnInstanceRequiredNeedsRequireInstanceAndReferenceKindWrongFalsely : Prop := fnInstanceRequiredNeedsRequireInstanceAndReferenceKindRow.holds Try.pinned (OpenSpec.ofChange fnInstanceRequiredNeedsRequireInstanceAndReferenceKindWrong)

/-- 'zzlaws_internal_schema_b1.FnInstanceRequiredExactlyTwoKindsOverAllBuiltins': WHATEVER THE INPUT: true; the input reads as it did. -/
def fnInstanceRequiredExactlyTwoKindsOverAllBuiltinsSpec : ChangeSpec := { name := "fnInstanceRequiredExactlyTwoKindsOverAllBuiltins", fn := fun _ => fun
  | [d1, d2, d3] => { results := [.lit (.bool true)], args := [d1, d2, d3] }
  | _ => none }
def fnInstanceRequiredExactlyTwoKindsOverAllBuiltinsRow : OpenClaim := { program := "qxb6616680a", sum := "9672babcd09453763046030df06b9825d13b36d0385e2a3535c1b32ffbf64e01", func := "example.com/yangway/yangway/zzlaws_internal_schema_b1.FnInstanceRequiredExactlyTwoKindsOverAllBuiltins", spec := "fnInstanceRequiredExactlyTwoKindsOverAllBuiltins", apart := false }
def FnInstanceRequiredExactlyTwoKindsOverAllBuiltinsSaid : Prop := fnInstanceRequiredExactlyTwoKindsOverAllBuiltinsRow.holds Try.pinned (OpenSpec.ofChange fnInstanceRequiredExactlyTwoKindsOverAllBuiltinsSpec)

/-- ITS FALSE NEIGHBOUR: 'it returns false'. Refute it at one input. -/
def fnInstanceRequiredExactlyTwoKindsOverAllBuiltinsWrong : ChangeSpec := { name := "fnInstanceRequiredExactlyTwoKindsOverAllBuiltins", fn := fun _ => fun
  | [d1, d2, d3] => { results := [.lit (.bool false)], args := [d1, d2, d3] }
  | _ => none }
def FnInstanceRequiredExactlyTwoKindsOverAllBuiltinsWrongFalsely : Prop := fnInstanceRequiredExactlyTwoKindsOverAllBuiltinsRow.holds Try.pinned (OpenSpec.ofChange fnInstanceRequiredExactlyTwoKindsOverAllBuiltinsWrong)

end Rows
end Go.Proofs.Qxb6616680a
