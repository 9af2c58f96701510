/-
  No cell of these rows narrows 'for every input' (looked for: loops, veiled, ifaces, maps, wideKeys, modest, calm, conditions, laid).
  DERIVED. THE GIVEN ROWS OF THIS SEAT. 2 by the template 'for every input the law returns true; each argument reads behind the call as it read before'; 0 by the template 'total and deterministic' (their statements: Qxb6616479aFmtTotals.lean).
  GIVEN WITH THE SEED: the statements are not yours to turn. If you find one false, say at which input.
  Laid BY PROGRAM, IN A SANDBOX (cutbox-rows.mjs): the forced cells as the released guide's own fill.sh prints them over the translation 6be1cfc8ddb32f01… (all of the seat's roots in one cut). By AI agents, Wed Nov 11 2026. No macro, syntax, notation, axiom, sorry.
-/
import Derived.Test.Qxb6616479aFmtChecked
import GoSem.Claim
import GoSem.ClaimJoined
import GoSem.ClaimMapViews
import Derived.JoinedTies
import Derived.KernelRfl
namespace Go.Proofs.Qxb6616479aFmt
/- THE CELL 'sum', in the pinned program and in every row, IS THE sha256 OF THE DUMP (.gsa) THAT Qxb6616479aFmtProg.lean LOADS. Nothing in Lean hashes anything: it is a label: what it is worth is what the hold of that sum in a sandbox is worth. -/
noncomputable def Tryf.pinned : Pinned := { name := "qxb6616479afmt", sum := "6be1cfc8ddb32f01db4fafeb45e92698b75f9d4d76a68f60495d163ea4d0b8e5", checked := Tryf.checked }
namespace Rows
def none {H : Type} : Left H := { results := [], args := [] }

/-- 'zzlaws_pkg_fit_b1.FnShapeErrorTextIsTheFaultsOrNoneOfIt': WHATEVER THE INPUT: true; the input reads as it did. -/
def fnShapeErrorTextIsTheFaultsOrNoneOfItSpec : ChangeSpec := { name := "fnShapeErrorTextIsTheFaultsOrNoneOfIt", fn := fun _ => fun
  | [d1, d2, d3, d4] => { results := [.lit (.bool true)], args := [d1, d2, d3, d4] }
  | _ => none }
def fnShapeErrorTextIsTheFaultsOrNoneOfItRow : OpenClaim := { program := "qxb6616479afmt", sum := "6be1cfc8ddb32f01db4fafeb45e92698b75f9d4d76a68f60495d163ea4d0b8e5", func := "example.com/apportion/apportion/zzlaws_pkg_fit_b1.FnShapeErrorTextIsTheFaultsOrNoneOfIt", spec := "fnShapeErrorTextIsTheFaultsOrNoneOfIt", stops := ["fmt.Sprintf"], inPlace := ["fmt.Sprintf"], unfollowed := true, recurses := true, apart := false }
/-- NO THEOREM (fmt's text is open here; it may be false): for the released tool's asking of the row's closed facts alone. THE STATEMENT IS 'FnShapeErrorTextIsTheFaultsOrNoneOfItToldSaid' (Qxb6616479aFmtCards.lean). -/
def FnShapeErrorTextIsTheFaultsOrNoneOfItFormAsk : Prop := fnShapeErrorTextIsTheFaultsOrNoneOfItRow.holds Tryf.pinned (OpenSpec.ofChange fnShapeErrorTextIsTheFaultsOrNoneOfItSpec)

/-- ITS FALSE NEIGHBOUR: 'it returns false'. Refute it at one input. -/
def fnShapeErrorTextIsTheFaultsOrNoneOfItWrong : ChangeSpec := { name := "fnShapeErrorTextIsTheFaultsOrNoneOfIt", fn := fun _ => fun
  | [d1, d2, d3, d4] => { results := [.lit (.bool false)], args := [d1, d2, d3, d4] }
  | _ => none }
def FnShapeErrorTextIsTheFaultsOrNoneOfItWrongFormAsk : Prop := fnShapeErrorTextIsTheFaultsOrNoneOfItRow.holds Tryf.pinned (OpenSpec.ofChange fnShapeErrorTextIsTheFaultsOrNoneOfItWrong)

/-- 'zzlaws_pkg_fit_b1.FnShapeErrorPassesANestedShapeErrorThrough': WHATEVER THE INPUT: true; the input reads as it did. -/
def fnShapeErrorPassesANestedShapeErrorThroughSpec : ChangeSpec := { name := "fnShapeErrorPassesANestedShapeErrorThrough", fn := fun _ => fun
  | [d1, d2, d3, d4, d5] => { results := [.lit (.bool true)], args := [d1, d2, d3, d4, d5] }
  | _ => none }
def fnShapeErrorPassesANestedShapeErrorThroughRow : OpenClaim := { program := "qxb6616479afmt", sum := "6be1cfc8ddb32f01db4fafeb45e92698b75f9d4d76a68f60495d163ea4d0b8e5", func := "example.com/apportion/apportion/zzlaws_pkg_fit_b1.FnShapeErrorPassesANestedShapeErrorThrough", spec := "fnShapeErrorPassesANestedShapeErrorThrough", stops := ["fmt.Sprintf"], inPlace := ["fmt.Sprintf"], unfollowed := true, recurses := true, apart := false }
/-- NO THEOREM (fmt's text is open here; it may be false): for the released tool's asking of the row's closed facts alone. THE STATEMENT IS 'FnShapeErrorPassesANestedShapeErrorThroughToldSaid' (Qxb6616479aFmtCards.lean). -/
def FnShapeErrorPassesANestedShapeErrorThroughFormAsk : Prop := fnShapeErrorPassesANestedShapeErrorThroughRow.holds Tryf.pinned (OpenSpec.ofChange fnShapeErrorPassesANestedShapeErrorThroughSpec)

/-- ITS FALSE NEIGHBOUR: 'it returns false'. Refute it at one input. -/
def fnShapeErrorPassesANestedShapeErrorThroughWrong : ChangeSpec := { name := "fnShapeErrorPassesANestedShapeErrorThrough", fn := fun _ => fun
  | [d1, d2, d3, d4, d5] => { results := [.lit (.bool false)], args := [d1, d2, d3, d4, d5] }
  | _ => none }
def FnShapeErrorPassesANestedShapeErrorThroughWrongFormAsk : Prop := fnShapeErrorPassesANestedShapeErrorThroughRow.holds Tryf.pinned (OpenSpec.ofChange fnShapeErrorPassesANestedShapeErrorThroughWrong)

end Rows
end Go.Proofs.Qxb6616479aFmt
