/-
  No cell of these rows narrows 'for every input' (looked for: loops, veiled, ifaces, maps, wideKeys, modest, calm, conditions, laid).
  DERIVED. THE GIVEN ROWS OF THIS SEAT. 3 by the template 'for every input the law returns true; each argument reads behind the call as it read before'; 0 by the template 'total and deterministic' (their statements: Qxb6613077aFmtTotals.lean).
  GIVEN WITH THE SEED: the statements are not yours to turn. If you find one false, say at which input.
  Laid BY PROGRAM, IN A SANDBOX (cutbox-rows.mjs): the forced cells as the released guide's own fill.sh prints them over the translation caf37ae597683b00… (all of the seat's roots in one cut). By AI agents, Wed Nov 11 2026. No macro, syntax, notation, axiom, sorry.
-/
import Derived.Test.Qxb6613077aFmtChecked
import GoSem.Claim
import GoSem.ClaimJoined
import GoSem.ClaimMapViews
import Derived.JoinedTies
import Derived.KernelRfl
namespace Go.Proofs.Qxb6613077aFmt
/- THE CELL 'sum', in the pinned program and in every row, IS THE sha256 OF THE DUMP (.gsa) THAT Qxb6613077aFmtProg.lean LOADS. Nothing in Lean hashes anything: it is a label: what it is worth is what the hold of that sum in a sandbox is worth. -/
noncomputable def Tryf.pinned : Pinned := { name := "qxb6613077afmt", sum := "caf37ae597683b0046ad417a247d36a33b7840cc2c0ab7bc094af86382040b23", checked := Tryf.checked }
namespace Rows
def none {H : Type} : Left H := { results := [], args := [] }

/-- 'zzlaws_hypercircle_b1.FnNeighborClockwiseWalksTheCircle': WHATEVER THE INPUT: true; the input reads as it did. -/
def fnNeighborClockwiseWalksTheCircleSpec : ChangeSpec := { name := "fnNeighborClockwiseWalksTheCircle", fn := fun _ => fun
  | [d1, d2, d3] => { results := [.lit (.bool true)], args := [d1, d2, d3] }
  | _ => none }
def fnNeighborClockwiseWalksTheCircleRow : OpenClaim := { program := "qxb6613077afmt", sum := "caf37ae597683b0046ad417a247d36a33b7840cc2c0ab7bc094af86382040b23", func := "example.com/overlace/overlace/zzlaws_hypercircle_b1.FnNeighborClockwiseWalksTheCircle", spec := "fnNeighborClockwiseWalksTheCircle", stops := ["fmt.Sprintf"], inPlace := ["fmt.Sprintf"], apart := false }
/-- NO THEOREM (fmt's text is open here; it may be false): for the released tool's asking of the row's closed facts alone. THE STATEMENT IS 'FnNeighborClockwiseWalksTheCircleToldSaid' (Qxb6613077aFmtCards.lean). -/
def FnNeighborClockwiseWalksTheCircleFormAsk : Prop := fnNeighborClockwiseWalksTheCircleRow.holds Tryf.pinned (OpenSpec.ofChange fnNeighborClockwiseWalksTheCircleSpec)

/-- ITS FALSE NEIGHBOUR: 'it returns false'. Refute it at one input. -/
def fnNeighborClockwiseWalksTheCircleWrong : ChangeSpec := { name := "fnNeighborClockwiseWalksTheCircle", fn := fun _ => fun
  | [d1, d2, d3] => { results := [.lit (.bool false)], args := [d1, d2, d3] }
  | _ => none }
def FnNeighborClockwiseWalksTheCircleWrongFormAsk : Prop := fnNeighborClockwiseWalksTheCircleRow.holds Tryf.pinned (OpenSpec.ofChange fnNeighborClockwiseWalksTheCircleWrong)

/-- 'zzlaws_hypercircle_b1.FnNeighborMovesCommuteAndUndo': WHATEVER THE INPUT: true; the input reads as it did. -/
def fnNeighborMovesCommuteAndUndoSpec : ChangeSpec := { name := "fnNeighborMovesCommuteAndUndo", fn := fun _ => fun
  | [d1, d2, d3, d4, d5, d6] => { results := [.lit (.bool true)], args := [d1, d2, d3, d4, d5, d6] }
  | _ => none }
def fnNeighborMovesCommuteAndUndoRow : OpenClaim := { program := "qxb6613077afmt", sum := "caf37ae597683b0046ad417a247d36a33b7840cc2c0ab7bc094af86382040b23", func := "example.com/overlace/overlace/zzlaws_hypercircle_b1.FnNeighborMovesCommuteAndUndo", spec := "fnNeighborMovesCommuteAndUndo", stops := ["fmt.Sprintf"], inPlace := ["fmt.Sprintf"], apart := false }
/-- NO THEOREM (fmt's text is open here; it may be false): for the released tool's asking of the row's closed facts alone. THE STATEMENT IS 'FnNeighborMovesCommuteAndUndoToldSaid' (Qxb6613077aFmtCards.lean). -/
def FnNeighborMovesCommuteAndUndoFormAsk : Prop := fnNeighborMovesCommuteAndUndoRow.holds Tryf.pinned (OpenSpec.ofChange fnNeighborMovesCommuteAndUndoSpec)

/-- ITS FALSE NEIGHBOUR: 'it returns false'. Refute it at one input. -/
def fnNeighborMovesCommuteAndUndoWrong : ChangeSpec := { name := "fnNeighborMovesCommuteAndUndo", fn := fun _ => fun
  | [d1, d2, d3, d4, d5, d6] => { results := [.lit (.bool false)], args := [d1, d2, d3, d4, d5, d6] }
  | _ => none }
def FnNeighborMovesCommuteAndUndoWrongFormAsk : Prop := fnNeighborMovesCommuteAndUndoRow.holds Tryf.pinned (OpenSpec.ofChange fnNeighborMovesCommuteAndUndoWrong)

/-- 'zzlaws_hypercircle_b1.FnLinkToInvertsNeighbor': WHATEVER THE INPUT: true; the input reads as it did. -/
def fnLinkToInvertsNeighborSpec : ChangeSpec := { name := "fnLinkToInvertsNeighbor", fn := fun _ => fun
  | [d1, d2, d3] => { results := [.lit (.bool true)], args := [d1, d2, d3] }
  | _ => none }
def fnLinkToInvertsNeighborRow : OpenClaim := { program := "qxb6613077afmt", sum := "caf37ae597683b0046ad417a247d36a33b7840cc2c0ab7bc094af86382040b23", func := "example.com/overlace/overlace/zzlaws_hypercircle_b1.FnLinkToInvertsNeighbor", spec := "fnLinkToInvertsNeighbor", stops := ["fmt.Sprintf"], inPlace := ["fmt.Sprintf"], apart := false }
/-- NO THEOREM (fmt's text is open here; it may be false): for the released tool's asking of the row's closed facts alone. THE STATEMENT IS 'FnLinkToInvertsNeighborToldSaid' (Qxb6613077aFmtCards.lean). -/
def FnLinkToInvertsNeighborFormAsk : Prop := fnLinkToInvertsNeighborRow.holds Tryf.pinned (OpenSpec.ofChange fnLinkToInvertsNeighborSpec)

/-- ITS FALSE NEIGHBOUR: 'it returns false'. Refute it at one input. -/
def fnLinkToInvertsNeighborWrong : ChangeSpec := { name := "fnLinkToInvertsNeighbor", fn := fun _ => fun
  | [d1, d2, d3] => { results := [.lit (.bool false)], args := [d1, d2, d3] }
  | _ => none }
def FnLinkToInvertsNeighborWrongFormAsk : Prop := fnLinkToInvertsNeighborRow.holds Tryf.pinned (OpenSpec.ofChange fnLinkToInvertsNeighborWrong)

end Rows
end Go.Proofs.Qxb6613077aFmt
