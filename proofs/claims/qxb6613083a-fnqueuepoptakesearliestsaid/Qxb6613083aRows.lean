/-
  No cell of these rows narrows 'for every input' (looked for: loops, veiled, ifaces, maps, wideKeys, modest, calm, conditions, laid).
  DERIVED. THE GIVEN ROWS OF THIS SEAT. 5 by the template 'for every input the law returns true; each argument reads behind the call as it read before'; 0 by the template 'total and deterministic' (their statements: Qxb6613083aTotals.lean).
  GIVEN WITH THE SEED: the statements are not yours to turn. If you find one false, say at which input.
  Laid BY PROGRAM, IN A SANDBOX (cutbox-rows.mjs): the forced cells as the released guide's own fill.sh prints them over the translation d853a5cd9b44df37… (all of the seat's roots in one cut). By AI agents, Wed Nov 11 2026. No macro, syntax, notation, axiom, sorry.
-/
import Derived.Test.Qxb6613083aChecked
import GoSem.Claim
import GoSem.ClaimJoined
import GoSem.ClaimMapViews
import Derived.JoinedTies
import Derived.KernelRfl
namespace Go.Proofs.Qxb6613083a
/- THE CELL 'sum', in the pinned program and in every row, IS THE sha256 OF THE DUMP (.gsa) THAT Qxb6613083aProg.lean LOADS. Nothing in Lean hashes anything: it is a label: what it is worth is what the hold of that sum in a sandbox is worth. -/
noncomputable def Try.pinned : Pinned := { name := "qxb6613083a", sum := "d853a5cd9b44df3726479244c3292777717958615b6c2eb1f48dde7938caa005", checked := Try.checked }
namespace Rows
def none {H : Type} : Left H := { results := [], args := [] }

/-- 'zzlaws_internal_sim_b1.FnQueuePopTakesEarliest': WHATEVER THE INPUT: true; the input reads as it did. -/
def fnQueuePopTakesEarliestSpec : ChangeSpec := { name := "fnQueuePopTakesEarliest", fn := fun _ => fun
  | [d1, d2, d3, d4, d5, d6] => { results := [.lit (.bool true)], args := [d1, d2, d3, d4, d5, d6] }
  | _ => none }
def fnQueuePopTakesEarliestRow : OpenClaim := { program := "qxb6613083a", sum := "d853a5cd9b44df3726479244c3292777717958615b6c2eb1f48dde7938caa005", func := "example.com/knotwise/knotwise/zzlaws_internal_sim_b1.FnQueuePopTakesEarliest", spec := "fnQueuePopTakesEarliest", apart := false }
def FnQueuePopTakesEarliestSaid : Prop := fnQueuePopTakesEarliestRow.holds Try.pinned (OpenSpec.ofChange fnQueuePopTakesEarliestSpec)

/-- ITS FALSE NEIGHBOUR: 'it returns false'. Refute it at one input. -/
def fnQueuePopTakesEarliestWrong : ChangeSpec := { name := "fnQueuePopTakesEarliest", fn := fun _ => fun
  | [d1, d2, d3, d4, d5, d6] => { results := [.lit (.bool false)], args := [d1, d2, d3, d4, d5, d6] }
  | _ => none }
def FnQueuePopTakesEarliestWrongFalsely : Prop := fnQueuePopTakesEarliestRow.holds Try.pinned (OpenSpec.ofChange fnQueuePopTakesEarliestWrong)

/-- 'zzlaws_internal_sim_b1.FnQueuePopDrainsInOrder': WHATEVER THE INPUT: true; the input reads as it did. -/
def fnQueuePopDrainsInOrderSpec : ChangeSpec := { name := "fnQueuePopDrainsInOrder", fn := fun _ => fun
  | [d1, d2, d3, d4, d5, d6] => { results := [.lit (.bool true)], args := [d1, d2, d3, d4, d5, d6] }
  | _ => none }
def fnQueuePopDrainsInOrderRow : OpenClaim := { program := "qxb6613083a", sum := "d853a5cd9b44df3726479244c3292777717958615b6c2eb1f48dde7938caa005", func := "example.com/knotwise/knotwise/zzlaws_internal_sim_b1.FnQueuePopDrainsInOrder", spec := "fnQueuePopDrainsInOrder", apart := false }
def FnQueuePopDrainsInOrderSaid : Prop := fnQueuePopDrainsInOrderRow.holds Try.pinned (OpenSpec.ofChange fnQueuePopDrainsInOrderSpec)

/-- ITS FALSE NEIGHBOUR: 'it returns false'. Refute it at one input. -/
def fnQueuePopDrainsInOrderWrong : ChangeSpec := { name := "fnQueuePopDrainsInOrder", fn := fun _ => fun
  | [d1, d2, d3, d4, d5, d6] => { results := [.lit (.bool false)], args := [d1, d2, d3, d4, d5, d6] }
  | _ => none }
def FnQueuePopDrainsInOrderWrongFalsely : Prop := fnQueuePopDrainsInOrderRow.holds Try.pinned (OpenSpec.ofChange fnQueuePopDrainsInOrderWrong)

/-- 'zzlaws_internal_sim_b1.FnLineLenCountsPops': WHATEVER THE INPUT: true; the input reads as it did. -/
def fnLineLenCountsPopsSpec : ChangeSpec := { name := "fnLineLenCountsPops", fn := fun _ => fun
  | [d1, d2] => { results := [.lit (.bool true)], args := [d1, d2] }
  | _ => none }
def fnLineLenCountsPopsRow : OpenClaim := { program := "qxb6613083a", sum := "d853a5cd9b44df3726479244c3292777717958615b6c2eb1f48dde7938caa005", func := "example.com/knotwise/knotwise/zzlaws_internal_sim_b1.FnLineLenCountsPops", spec := "fnLineLenCountsPops", apart := false }
def FnLineLenCountsPopsSaid : Prop := fnLineLenCountsPopsRow.holds Try.pinned (OpenSpec.ofChange fnLineLenCountsPopsSpec)

/-- ITS FALSE NEIGHBOUR: 'it returns false'. Refute it at one input. -/
def fnLineLenCountsPopsWrong : ChangeSpec := { name := "fnLineLenCountsPops", fn := fun _ => fun
  | [d1, d2] => { results := [.lit (.bool false)], args := [d1, d2] }
  | _ => none }
def FnLineLenCountsPopsWrongFalsely : Prop := fnLineLenCountsPopsRow.holds Try.pinned (OpenSpec.ofChange fnLineLenCountsPopsWrong)

/-- 'zzlaws_internal_sim_b1.FnLineLenFollowsQueuePops': WHATEVER THE INPUT: true; the input reads as it did. -/
def fnLineLenFollowsQueuePopsSpec : ChangeSpec := { name := "fnLineLenFollowsQueuePops", fn := fun _ => fun
  | [d1, d2, d3, d4, d5, d6] => { results := [.lit (.bool true)], args := [d1, d2, d3, d4, d5, d6] }
  | _ => none }
def fnLineLenFollowsQueuePopsRow : OpenClaim := { program := "qxb6613083a", sum := "d853a5cd9b44df3726479244c3292777717958615b6c2eb1f48dde7938caa005", func := "example.com/knotwise/knotwise/zzlaws_internal_sim_b1.FnLineLenFollowsQueuePops", spec := "fnLineLenFollowsQueuePops", apart := false }
def FnLineLenFollowsQueuePopsSaid : Prop := fnLineLenFollowsQueuePopsRow.holds Try.pinned (OpenSpec.ofChange fnLineLenFollowsQueuePopsSpec)

/-- ITS FALSE NEIGHBOUR: 'it returns false'. Refute it at one input. -/
def fnLineLenFollowsQueuePopsWrong : ChangeSpec := { name := "fnLineLenFollowsQueuePops", fn := fun _ => fun
  | [d1, d2, d3, d4, d5, d6] => { results := [.lit (.bool false)], args := [d1, d2, d3, d4, d5, d6] }
  | _ => none }
def FnLineLenFollowsQueuePopsWrongFalsely : Prop := fnLineLenFollowsQueuePopsRow.holds Try.pinned (OpenSpec.ofChange fnLineLenFollowsQueuePopsWrong)

/-- 'zzlaws_internal_sim_b1.FnHappensMonotoneInBelow': WHATEVER THE INPUT: true; the input reads as it did. -/
def fnHappensMonotoneInBelowSpec : ChangeSpec := { name := "fnHappensMonotoneInBelow", fn := fun _ => fun
  | [d1, d2, d3, d4, d5, d6] => { results := [.lit (.bool true)], args := [d1, d2, d3, d4, d5, d6] }
  | _ => none }
def fnHappensMonotoneInBelowRow : OpenClaim := { program := "qxb6613083a", sum := "d853a5cd9b44df3726479244c3292777717958615b6c2eb1f48dde7938caa005", func := "example.com/knotwise/knotwise/zzlaws_internal_sim_b1.FnHappensMonotoneInBelow", spec := "fnHappensMonotoneInBelow", inPlace := ["math/bits.Add64"], apart := false }
def FnHappensMonotoneInBelowSaid : Prop := fnHappensMonotoneInBelowRow.holds Try.pinned (OpenSpec.ofChange fnHappensMonotoneInBelowSpec)

/-- ITS FALSE NEIGHBOUR: 'it returns false'. Refute it at one input. -/
def fnHappensMonotoneInBelowWrong : ChangeSpec := { name := "fnHappensMonotoneInBelow", fn := fun _ => fun
  | [d1, d2, d3, d4, d5, d6] => { results := [.lit (.bool false)], args := [d1, d2, d3, d4, d5, d6] }
  | _ => none }
def FnHappensMonotoneInBelowWrongFalsely : Prop := fnHappensMonotoneInBelowRow.holds Try.pinned (OpenSpec.ofChange fnHappensMonotoneInBelowWrong)

end Rows
end Go.Proofs.Qxb6613083a
