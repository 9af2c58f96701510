/-
  No cell of these rows narrows 'for every input' (looked for: loops, veiled, ifaces, maps, wideKeys, modest, calm, conditions, laid).
  DERIVED. THE GIVEN ROWS OF THIS SEAT. 1 by the template 'for every input the law returns true; each argument reads behind the call as it read before'; 0 by the template 'total and deterministic' (their statements: Qxb6617054aFmtTotals.lean).
  GIVEN WITH THE SEED: the statements are not yours to turn. If you find one false, say at which input.
  Laid BY PROGRAM, IN A SANDBOX (cutbox-rows.mjs): the forced cells as the released guide's own fill.sh prints them over the translation e806488bf342a08e… (all of the seat's roots in one cut). By AI agents, Wed Nov 11 2026. No macro, syntax, notation, axiom, sorry.
-/
import Derived.Test.Qxb6617054aFmtChecked
import GoSem.Claim
import GoSem.ClaimJoined
import GoSem.ClaimMapViews
import Derived.JoinedTies
import Derived.KernelRfl
namespace Go.Proofs.Qxb6617054aFmt
/- THE CELL 'sum', in the pinned program and in every row, IS THE sha256 OF THE DUMP (.gsa) THAT Qxb6617054aFmtProg.lean LOADS. Nothing in Lean hashes anything: it is a label: what it is worth is what the hold of that sum in a sandbox is worth. -/
noncomputable def Tryf.pinned : Pinned := { name := "qxb6617054afmt", sum := "e806488bf342a08e490eadb919d9e6cc98eab3d3f2c49b9b9fa6dd8117e9d842", checked := Tryf.checked }
namespace Rows
def none {H : Type} : Left H := { results := [], args := [] }

/-- 'zzlaws_sim_e1.FnValidateIsNodesRangeAndEntriesFloor': WHATEVER THE INPUT: true; the input reads as it did. -/
def fnValidateIsNodesRangeAndEntriesFloorSpec : ChangeSpec := { name := "fnValidateIsNodesRangeAndEntriesFloor", fn := fun _ => fun
  | [d1, d2, d3, d4] => { results := [.lit (.bool true)], args := [d1, d2, d3, d4] }
  | _ => none }
def fnValidateIsNodesRangeAndEntriesFloorRow : OpenClaim := { program := "qxb6617054afmt", sum := "e806488bf342a08e490eadb919d9e6cc98eab3d3f2c49b9b9fa6dd8117e9d842", func := "example.com/privilege/privilege/zzlaws_sim_e1.FnValidateIsNodesRangeAndEntriesFloor", spec := "fnValidateIsNodesRangeAndEntriesFloor", stops := ["fmt.errorf"], inPlace := ["fmt.errorf"], apart := false }
/-- NO THEOREM (fmt's text is open here; it may be false): for the released tool's asking of the row's closed facts alone. THE STATEMENT IS 'FnValidateIsNodesRangeAndEntriesFloorToldSaid' (Qxb6617054aFmtCards.lean). -/
def FnValidateIsNodesRangeAndEntriesFloorFormAsk : Prop := fnValidateIsNodesRangeAndEntriesFloorRow.holds Tryf.pinned (OpenSpec.ofChange fnValidateIsNodesRangeAndEntriesFloorSpec)

/-- ITS FALSE NEIGHBOUR: 'it returns false'. Refute it at one input. -/
def fnValidateIsNodesRangeAndEntriesFloorWrong : ChangeSpec := { name := "fnValidateIsNodesRangeAndEntriesFloor", fn := fun _ => fun
  | [d1, d2, d3, d4] => { results := [.lit (.bool false)], args := [d1, d2, d3, d4] }
  | _ => none }
def FnValidateIsNodesRangeAndEntriesFloorWrongFormAsk : Prop := fnValidateIsNodesRangeAndEntriesFloorRow.holds Tryf.pinned (OpenSpec.ofChange fnValidateIsNodesRangeAndEntriesFloorWrong)

end Rows
end Go.Proofs.Qxb6617054aFmt
