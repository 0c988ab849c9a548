/-
  DERIVED. GIVEN WITH THE SEED: THE CARDS: each row of Qxb6613077aFmtRows.lean that lists a variable, with what it lists TIED to the program's text (the seventh form; the later family's looks); each row that meets fmt, with fmt's text TOLD by the authors' own Lean function (tested against real Go, not proved from fmt's source: count such statements apart). THE CARD IS WHAT COUNTS. Prove the row's statement (the work); the ties are given (Qxb6613077aFmtTie.lean); close each card by the builder's one call (the guide's Derived/Test/ToyasCard.lean, 'card_holds'). Laid BY PROGRAM, IN A SANDBOX (cutbox-door.mjs). By AI agents, Wed Nov 11 2026. No macro, syntax, notation, axiom, sorry.
-/
import Derived.Test.Qxb6613077aFmtRows
import GoSem.ClaimSeven
namespace Go.Proofs.Qxb6613077aFmt
namespace Rows

/-- THE TOLD CARD OF 'zzlaws_hypercircle_b1.FnNeighborClockwiseWalksTheCircle'. -/
def fnNeighborClockwiseWalksTheCircleCard : Claim7 := { stood := { row := fnNeighborClockwiseWalksTheCircleRow, standIns := [], harness := (true, "f4b606606ad27f5302a4df762cafb69dce041e0358dbf6f5fe1054f88f29acbf"), looks := false }, told := true, goes := false }
def FnNeighborClockwiseWalksTheCircleToldSaid : Prop := Claim7.holds Tryf.pinned (.plain (OpenSpec.ofChange fnNeighborClockwiseWalksTheCircleSpec)) fnNeighborClockwiseWalksTheCircleCard
/-- ITS FALSE NEIGHBOUR. Refute it at one input. -/
def FnNeighborClockwiseWalksTheCircleToldWrongFalsely : Prop := Claim7.holds Tryf.pinned (.plain (OpenSpec.ofChange fnNeighborClockwiseWalksTheCircleWrong)) fnNeighborClockwiseWalksTheCircleCard

/-- THE TOLD CARD OF 'zzlaws_hypercircle_b1.FnNeighborMovesCommuteAndUndo'. -/
def fnNeighborMovesCommuteAndUndoCard : Claim7 := { stood := { row := fnNeighborMovesCommuteAndUndoRow, standIns := [], harness := (true, "f4b606606ad27f5302a4df762cafb69dce041e0358dbf6f5fe1054f88f29acbf"), looks := false }, told := true, goes := false }
def FnNeighborMovesCommuteAndUndoToldSaid : Prop := Claim7.holds Tryf.pinned (.plain (OpenSpec.ofChange fnNeighborMovesCommuteAndUndoSpec)) fnNeighborMovesCommuteAndUndoCard
/-- ITS FALSE NEIGHBOUR. Refute it at one input. -/
def FnNeighborMovesCommuteAndUndoToldWrongFalsely : Prop := Claim7.holds Tryf.pinned (.plain (OpenSpec.ofChange fnNeighborMovesCommuteAndUndoWrong)) fnNeighborMovesCommuteAndUndoCard

/-- THE TOLD CARD OF 'zzlaws_hypercircle_b1.FnLinkToInvertsNeighbor'. -/
def fnLinkToInvertsNeighborCard : Claim7 := { stood := { row := fnLinkToInvertsNeighborRow, standIns := [], harness := (true, "f4b606606ad27f5302a4df762cafb69dce041e0358dbf6f5fe1054f88f29acbf"), looks := false }, told := true, goes := false }
def FnLinkToInvertsNeighborToldSaid : Prop := Claim7.holds Tryf.pinned (.plain (OpenSpec.ofChange fnLinkToInvertsNeighborSpec)) fnLinkToInvertsNeighborCard
/-- ITS FALSE NEIGHBOUR. Refute it at one input. -/
def FnLinkToInvertsNeighborToldWrongFalsely : Prop := Claim7.holds Tryf.pinned (.plain (OpenSpec.ofChange fnLinkToInvertsNeighborWrong)) fnLinkToInvertsNeighborCard
end Rows
end Go.Proofs.Qxb6613077aFmt
