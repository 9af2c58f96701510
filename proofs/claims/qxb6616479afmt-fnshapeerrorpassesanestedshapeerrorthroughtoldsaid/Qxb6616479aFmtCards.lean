/-
  DERIVED. GIVEN WITH THE SEED: THE CARDS: each row of Qxb6616479aFmtRows.lean that lists a variable, with what it lists TIED to the program's text (the seventh form; the later family's looks); each row that meets fmt, with fmt's text TOLD by the authors' own Lean function (tested against real Go, not proved from fmt's source: count such statements apart). THE CARD IS WHAT COUNTS. Prove the row's statement (the work); the ties are given (Qxb6616479aFmtTie.lean); close each card by the builder's one call (the guide's Derived/Test/ToyasCard.lean, 'card_holds'). Laid BY PROGRAM, IN A SANDBOX (cutbox-door.mjs). By AI agents, Wed Nov 11 2026. No macro, syntax, notation, axiom, sorry.
-/
import Derived.Test.Qxb6616479aFmtRows
import GoSem.ClaimSeven
namespace Go.Proofs.Qxb6616479aFmt
namespace Rows

/-- THE TOLD CARD OF 'zzlaws_pkg_fit_b1.FnShapeErrorTextIsTheFaultsOrNoneOfIt'. -/
def fnShapeErrorTextIsTheFaultsOrNoneOfItCard : Claim7 := { stood := { row := fnShapeErrorTextIsTheFaultsOrNoneOfItRow, standIns := [], harness := (true, "9995439c7d328bdebf487343db9cccb0e883f372eccbf073698aa488689ef0a3"), looks := false }, told := true, goes := false }
def FnShapeErrorTextIsTheFaultsOrNoneOfItToldSaid : Prop := Claim7.holds Tryf.pinned (.plain (OpenSpec.ofChange fnShapeErrorTextIsTheFaultsOrNoneOfItSpec)) fnShapeErrorTextIsTheFaultsOrNoneOfItCard
/-- ITS FALSE NEIGHBOUR. Refute it at one input. -/
def FnShapeErrorTextIsTheFaultsOrNoneOfItToldWrongFalsely : Prop := Claim7.holds Tryf.pinned (.plain (OpenSpec.ofChange fnShapeErrorTextIsTheFaultsOrNoneOfItWrong)) fnShapeErrorTextIsTheFaultsOrNoneOfItCard

/-- THE TOLD CARD OF 'zzlaws_pkg_fit_b1.FnShapeErrorPassesANestedShapeErrorThrough'. -/
def fnShapeErrorPassesANestedShapeErrorThroughCard : Claim7 := { stood := { row := fnShapeErrorPassesANestedShapeErrorThroughRow, standIns := [], harness := (true, "9995439c7d328bdebf487343db9cccb0e883f372eccbf073698aa488689ef0a3"), looks := false }, told := true, goes := false }
def FnShapeErrorPassesANestedShapeErrorThroughToldSaid : Prop := Claim7.holds Tryf.pinned (.plain (OpenSpec.ofChange fnShapeErrorPassesANestedShapeErrorThroughSpec)) fnShapeErrorPassesANestedShapeErrorThroughCard
/-- ITS FALSE NEIGHBOUR. Refute it at one input. -/
def FnShapeErrorPassesANestedShapeErrorThroughToldWrongFalsely : Prop := Claim7.holds Tryf.pinned (.plain (OpenSpec.ofChange fnShapeErrorPassesANestedShapeErrorThroughWrong)) fnShapeErrorPassesANestedShapeErrorThroughCard
end Rows
end Go.Proofs.Qxb6616479aFmt
