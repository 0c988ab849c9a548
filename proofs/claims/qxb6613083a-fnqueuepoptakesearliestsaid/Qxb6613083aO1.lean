/-
  AN ARGUMENT OF TYPE []QEv, OPENED.
-/
import Derived.Test.Qxb6613083aM0
import Derived.Test.Qxb6613083aProg
import Derived.ProofKit
import Derived.OpenShut
import Derived.Deep.Slices
namespace Go.Proofs.Qxb6613083a
open Go.ChangeShapes Go.WideShapes Go.ChangeAt Go.RowKit Go.Deep

theorem cells29 : Try.prog.cellsOf 29 = 5 := by kernel_rfl
theorem cells22 : Try.prog.cellsOf 22 = 1 := by kernel_rfl
theorem cells5 : Try.prog.cellsOf 5 = 1 := by kernel_rfl
theorem cells3 : Try.prog.cellsOf 3 = 1 := by kernel_rfl

section
variable {H : Type} {enc : TypeId × Value → H} {w : World} {base : Nat} {spare : Nat → Bool} {held : Bool}
theorem five {α : Type} {l : List α} (h : l.length = 5) : ∃ a b c d e, l = [a, b, c, d, e] := by
  match l, h with
  | [a, b, c, d, e], _ => exact ⟨a, b, c, d, e, rfl⟩

theorem open_qevs {fuel : Nat} {a : Option Addr} {len cap : Nat} {x : DataW H × List MemPlace} (h : DataW.trod enc Try.prog w base spare held fuel 23 [.slice a len cap] = some x) :
    len ≤ 9223372036854775807 ∧ (a = none → len = 0 ∧ cap = 0) ∧ ∃ E, QSl w w.heap.size a len E := by
  rcases open_slice Try.underlying23 h with ⟨h0, _⟩ | ⟨ad, len', cap', m, n, D, Pl, hcs, hb, hl, hm, hmm, rfl, hx⟩
  · simp at h0
    obtain ⟨rfl, rfl, rfl⟩ := h0
    exact ⟨by omega, fun _ => ⟨rfl, rfl⟩, fun _ => ev0, fun h => absurd h (by omega)⟩
  · simp at hcs
    obtain ⟨rfl, rfl, rfl⟩ := hcs
    have hlm : len ≤ m := by rw [hmm]; split <;> omega
    refine ⟨by unfold maxLen at hm; omega, fun h => by simp at h, ?_⟩
    have each : ∀ i, i < len → ∃ e : Ev, w.cell? (ad.add (i * 5)) = some (.int .u64 e.hi) ∧ w.cell? (ad.add (i * 5 + 1)) = some (.int .u64 e.lo) ∧ w.cell? (ad.add (i * 5 + 2)) = some (.int .u64 e.ord) ∧ w.cell? (ad.add (i * 5 + 3)) = some (.int .u8 e.kind) ∧ w.cell? (ad.add (i * 5 + 4)) = some (.int .i64 e.user) := by
      intro i hi
      obtain ⟨cs', h1, h2⟩ := hx i (by omega)
      rw [cells29] at h1
      obtain ⟨_, hlen, hcell⟩ := World.cells?_some h1
      obtain ⟨xs, k, hk, hxy, _, hxl, hf⟩ := DataW.trod_struct Try.underlying29 h2
      obtain ⟨v0, v1, v2, v3, v4, rfl⟩ := five hlen
      obtain ⟨y0, y1, y2, y3, y4, rfl⟩ := five hxl
      have g0 := hf 0 _ rfl
      have g1 := hf 1 _ rfl
      have g2 := hf 2 _ rfl
      have g3 := hf 3 _ rfl
      have g4 := hf 4 _ rfl
      simp [cells22] at g0 g1 g2
      simp [cells5] at g3
      simp [cells3] at g4
      obtain ⟨a0, e0, _, _⟩ := DataW.trod_int Try.underlying22 g0
      obtain ⟨a1, e1, _, _⟩ := DataW.trod_int Try.underlying22 g1
      obtain ⟨a2, e2, _, _⟩ := DataW.trod_int Try.underlying22 g2
      obtain ⟨a3, e3, _, _⟩ := DataW.trod_int Try.underlying5 g3
      obtain ⟨a4, e4, _, _⟩ := DataW.trod_int Try.underlying3 g4
      simp at e0 e1 e2 e3 e4
      subst e0 e1 e2 e3 e4
      have c0 := hcell 0 (by omega)
      have c1 := hcell 1 (by omega)
      have c2 := hcell 2 (by omega)
      have c3 := hcell 3 (by omega)
      have c4 := hcell 4 (by omega)
      rw [add_add] at c0 c1 c2 c3 c4
      exact ⟨⟨a0, a1, a2, a3, a4⟩, by simpa using c0, by simpa using c1, by simpa using c2, by simpa using c3, by simpa using c4⟩
    refine ⟨fun i => if hi : i < len then Classical.choose (each i hi) else ev0, fun hpos => ?_⟩
    obtain ⟨b, o, sp⟩ := ad
    have hsp : sp = none := by
      obtain ⟨e, h0, _⟩ := each 0 hpos
      simpa [Addr.add] using World.cell?_spot h0
    subst hsp
    have hspec : ∀ i, i < len → QAt w b (o + i * 5) (if hi : i < len then Classical.choose (each i hi) else ev0) := fun i hi => by
      have hs := Classical.choose_spec (each i hi)
      rw [dif_pos hi]
      generalize Classical.choose (each i hi) = e at hs ⊢
      simp only [add_plain] at hs
      exact hs
    exact ⟨b, o, rfl, (hspec 0 hpos).lt, hspec⟩
end
end Go.Proofs.Qxb6613083a
