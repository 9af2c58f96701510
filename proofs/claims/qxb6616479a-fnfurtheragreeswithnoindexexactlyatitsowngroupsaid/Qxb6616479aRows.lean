/-
  No cell of these rows narrows 'for every input' (looked for: loops, veiled, ifaces, maps, wideKeys, modest, calm, conditions, laid).
  DERIVED. THE GIVEN ROWS OF THIS SEAT. 1 by the template 'for every input the law returns true; each argument reads behind the call as it read before'; 0 by the template 'total and deterministic' (their statements: Qxb6616479aTotals.lean).
  GIVEN WITH THE SEED: the statements are not yours to turn. If you find one false, say at which input.
  Laid BY PROGRAM, IN A SANDBOX (cutbox-rows.mjs): the forced cells as the released guide's own fill.sh prints them over the translation 9b0427233c4624c1… (all of the seat's roots in one cut). By AI agents, Wed Nov 11 2026. No macro, syntax, notation, axiom, sorry.
-/
import Derived.Test.Qxb6616479aChecked
import GoSem.Claim
import GoSem.ClaimJoined
import GoSem.ClaimMapViews
import Derived.JoinedTies
import Derived.KernelRfl
namespace Go.Proofs.Qxb6616479a
/- THE CELL 'sum', in the pinned program and in every row, IS THE sha256 OF THE DUMP (.gsa) THAT Qxb6616479aProg.lean LOADS. Nothing in Lean hashes anything: it is a label: what it is worth is what the hold of that sum in a sandbox is worth. -/
noncomputable def Try.pinned : Pinned := { name := "qxb6616479a", sum := "9b0427233c4624c1d053e4996c354c87aca9ee3585f6db3a383a5ff787d61033", checked := Try.checked }
namespace Rows
def none {H : Type} : Left H := { results := [], args := [] }

/-- 'zzlaws_pkg_fit_b1.FnFurtherAgreesWithNoIndexExactlyAtItsOwnGroup': WHATEVER THE INPUT: true; the input reads as it did. -/
def fnFurtherAgreesWithNoIndexExactlyAtItsOwnGroupSpec : ChangeSpec := { name := "fnFurtherAgreesWithNoIndexExactlyAtItsOwnGroup", fn := fun _ => fun
  | [d1, d2, d3] => { results := [.lit (.bool true)], args := [d1, d2, d3] }
  | _ => none }
def fnFurtherAgreesWithNoIndexExactlyAtItsOwnGroupRow : OpenClaim := { program := "qxb6616479a", sum := "9b0427233c4624c1d053e4996c354c87aca9ee3585f6db3a383a5ff787d61033", func := "example.com/apportion/apportion/zzlaws_pkg_fit_b1.FnFurtherAgreesWithNoIndexExactlyAtItsOwnGroup", spec := "fnFurtherAgreesWithNoIndexExactlyAtItsOwnGroup", plainKeys := false, apart := false }
def FnFurtherAgreesWithNoIndexExactlyAtItsOwnGroupSaid : Prop := fnFurtherAgreesWithNoIndexExactlyAtItsOwnGroupRow.holds Try.pinned (OpenSpec.ofChange fnFurtherAgreesWithNoIndexExactlyAtItsOwnGroupSpec)

/-- ITS FALSE NEIGHBOUR: 'it returns false'. Refute it at one input. -/
def fnFurtherAgreesWithNoIndexExactlyAtItsOwnGroupWrong : ChangeSpec := { name := "fnFurtherAgreesWithNoIndexExactlyAtItsOwnGroup", fn := fun _ => fun
  | [d1, d2, d3] => { results := [.lit (.bool false)], args := [d1, d2, d3] }
  | _ => none }
def FnFurtherAgreesWithNoIndexExactlyAtItsOwnGroupWrongFalsely : Prop := fnFurtherAgreesWithNoIndexExactlyAtItsOwnGroupRow.holds Try.pinned (OpenSpec.ofChange fnFurtherAgreesWithNoIndexExactlyAtItsOwnGroupWrong)

end Rows
end Go.Proofs.Qxb6616479a
