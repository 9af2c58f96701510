/-
  DERIVED. GIVEN WITH THE SEED: THE CARDS: each row of Qxb6617054aFmtRows.lean that lists a variable, with what it lists TIED to the program's text (the seventh form; the later family's looks); each row that meets fmt, with fmt's text TOLD by the authors' own Lean function (tested against real Go, not proved from fmt's source: count such statements apart). THE CARD IS WHAT COUNTS. Prove the row's statement (the work); the ties are given (Qxb6617054aFmtTie.lean); close each card by the builder's one call (the guide's Derived/Test/ToyasCard.lean, 'card_holds'). Laid BY PROGRAM, IN A SANDBOX (cutbox-door.mjs). By AI agents, Wed Nov 11 2026. No macro, syntax, notation, axiom, sorry.
-/
import Derived.Test.Qxb6617054aFmtRows
import GoSem.ClaimSeven
namespace Go.Proofs.Qxb6617054aFmt
namespace Rows

/-- THE TOLD CARD OF 'zzlaws_sim_e1.FnValidateIsNodesRangeAndEntriesFloor'. -/
def fnValidateIsNodesRangeAndEntriesFloorCard : Claim7 := { stood := { row := fnValidateIsNodesRangeAndEntriesFloorRow, standIns := [], harness := (true, "f1157934e5aa901eed98f61bb9026958c64c197aaadf1f46e61df2aedfc669b0"), looks := false }, told := true, goes := false }
def FnValidateIsNodesRangeAndEntriesFloorToldSaid : Prop := Claim7.holds Tryf.pinned (.plain (OpenSpec.ofChange fnValidateIsNodesRangeAndEntriesFloorSpec)) fnValidateIsNodesRangeAndEntriesFloorCard
/-- ITS FALSE NEIGHBOUR. Refute it at one input. -/
def FnValidateIsNodesRangeAndEntriesFloorToldWrongFalsely : Prop := Claim7.holds Tryf.pinned (.plain (OpenSpec.ofChange fnValidateIsNodesRangeAndEntriesFloorWrong)) fnValidateIsNodesRangeAndEntriesFloorCard
end Rows
end Go.Proofs.Qxb6617054aFmt
