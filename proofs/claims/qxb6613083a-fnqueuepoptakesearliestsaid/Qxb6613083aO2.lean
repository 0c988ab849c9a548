/-
  AN ARGUMENT OF TYPE []QEv, OPENED: its length is no more than its capacity.
-/
import Derived.Test.Qxb6613083aO1
namespace Go.Proofs.Qxb6613083a
open Go.ChangeShapes Go.WideShapes Go.ChangeAt Go.RowKit Go.Deep

section
variable {H : Type} {enc : TypeId × Value → H} {w : World} {base : Nat} {spare : Nat → Bool} {held : Bool}
theorem open_qevs2 {fuel : Nat} {a : Option Addr} {len cap : Nat} {x : DataW H × List MemPlace} (h : DataW.trod enc Try.prog w base spare held fuel 23 [.slice a len cap] = some x) :
    len ≤ 9223372036854775807 ∧ (a = none → len = 0 ∧ cap = 0) ∧ len ≤ cap ∧ ∃ E, QSl w w.heap.size a len E := by
  obtain ⟨h1, h2, h3⟩ := open_qevs h
  refine ⟨h1, h2, ?_, h3⟩
  rcases open_slice Try.underlying23 h with ⟨h0, _⟩ | ⟨ad, len', cap', m, n, D, Pl, hcs, hb, hl, hm, hmm, rfl, hx⟩
  · simp at h0
    obtain ⟨rfl, rfl, rfl⟩ := h0
    exact Nat.le_refl _
  · simp at hcs
    obtain ⟨rfl, rfl, rfl⟩ := hcs
    omega
end
end Go.Proofs.Qxb6613083a
