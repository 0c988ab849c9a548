/-
  ToEvents of whatever slice; the queue made of three of them; zzBytes.
-/
import Derived.Test.Qxb6613083aP3
import Derived.Test.Qxb6613083aL5
namespace Go.Proofs.Qxb6613083a
open Go.RowKit Go.BigFrame

theorem toEvents_all (a : Option Addr) (n c : Nat) (E : Nat → Ev) (w : World) (hn : n ≤ 1048576) (hq : QSl w w.heap.size a n E) (hnil : a = none → n = 0 ∧ c = 0) :
    Calls Try.prog 13 #[.slice a n c] w fun r w' => ∃ a', r = .returned (.slice a' n n) ∧ (0 < n → ∃ g, w.heap.size ≤ g ∧ g < w'.heap.size ∧ a' = some ⟨g, 0, none⟩ ∧ ERow w' g n E) ∧ Below w.heap.size w w' := by
  cases a with
  | none =>
    obtain ⟨rfl, rfl⟩ := hnil rfl
    exact (toEvents_nil w).mono fun r w' ⟨hr, hw⟩ => ⟨none, hr, fun h => by omega, by rw [hw]; exact Below.refl _ _⟩
  | some ad => exact (toEvents_some ad n c E w hn hq).mono fun r w' ⟨g, hr, hg, row, hb⟩ => ⟨_, hr, fun _ => ⟨g, hg, row.lt, rfl, row⟩, hb⟩

/-- a row's block, or a number that is no block -/
theorem pickB {n lo hi : Nat} {a : Option Addr} {w : World} {E : Nat → Ev} (h : 0 < n → ∃ g, lo ≤ g ∧ g < hi ∧ a = some ⟨g, 0, none⟩ ∧ ERow w g n E) (D : Nat) : ∃ b, (b = D ∨ (lo ≤ b ∧ b < hi)) ∧ (0 < n → a = some ⟨b, 0, none⟩ ∧ ERow w b n E) := by
  by_cases hn : 0 < n
  · obtain ⟨g, h1, h2, h3, h4⟩ := h hn
    exact ⟨g, .inr ⟨h1, h2⟩, fun _ => ⟨h3, h4⟩⟩
  · exact ⟨D, .inl rfl, fun h => absurd h hn⟩

/-- the queue that is made -/
theorem QSt.make {w1 w2 w3 w4 : World} {B s0 : Nat} {dl : Int} {n0 n1 n2 k0 k1 : Nat} {E0 E1 E2 : Nat → Ev} {a0 a1 a2 : Option Addr} (hB : B ≤ s0)
    (h0 : 0 < n0 → ∃ g, s0 ≤ g ∧ g < w1.heap.size ∧ a0 = some ⟨g, 0, none⟩ ∧ ERow w1 g n0 E0) (hs0 : s0 ≤ w1.heap.size)
    (h1 : 0 < n1 → ∃ g, w1.heap.size ≤ g ∧ g < w2.heap.size ∧ a1 = some ⟨g, 0, none⟩ ∧ ERow w2 g n1 E1) (b12 : Below w1.heap.size w1 w2)
    (h2 : 0 < n2 → ∃ g, w2.heap.size ≤ g ∧ g < w3.heap.size ∧ a2 = some ⟨g, 0, none⟩ ∧ ERow w3 g n2 E2) (b23 : Below w2.heap.size w2 w3)
    (d : w4.cell? ⟨w3.heap.size, 0, none⟩ = some (.int .u64 dl)) (l0 : LnAt w4 w3.heap.size 1 (.slice a0 n0 n0) k0) (l1 : LnAt w4 w3.heap.size 3 (.slice a1 n1 n1) k1) (tm : TmAt w4 w3.heap.size 5 (.slice a2 n2 n2)) (b34 : Below w3.heap.size w3 w4)
    (hn0 : n0 ≤ 1048576) (hn1 : n1 ≤ 1048576) (hn2 : n2 ≤ 1048576) (hk0 : k0 ≤ n0 / 2) (hk1 : k1 ≤ n1 / 2) (hp : HeapP E2 n2) :
    ∃ s : Qs, QSt w4 B w3.heap.size dl s ∧ (s.l0.n = n0 ∧ s.l0.h = k0 ∧ s.l0.E = E0) ∧ (s.l1.n = n1 ∧ s.l1.h = k1 ∧ s.l1.E = E1) ∧ (s.tm.n = n2 ∧ s.tm.E = E2) := by
  have b24 := b23.trans (b34.mono b23.size)
  have b14 := b12.trans (b24.mono b12.size)
  have z12 := b12.size
  have z23 := b23.size
  have z34 := b34.size
  obtain ⟨b0, c0, r0⟩ := pickB h0 (w4.heap.size + 1)
  obtain ⟨b1, c1, r1⟩ := pickB h1 (w4.heap.size + 2)
  obtain ⟨b2, c2, r2⟩ := pickB h2 (w4.heap.size + 3)
  refine ⟨⟨⟨a0, b0, n0, n0, k0, E0⟩, ⟨a1, b1, n1, n1, k1, E1⟩, ⟨a2, b2, n2, n2, E2⟩⟩, ⟨d, ⟨Nat.le_refl _, hn0, hk0, l0, fun h => ⟨(r0 h).1, (r0 h).2.below b14⟩, ?_⟩, ⟨Nat.le_refl _, hn1, hk1, l1, fun h => ⟨(r1 h).1, (r1 h).2.below b24⟩, ?_⟩, ⟨Nat.le_refl _, hn2, tm, fun h => ⟨(r2 h).1, (r2 h).2.below b34⟩, hp, ?_⟩, ?_, ?_, ?_, ?_, ?_, ?_, ?_⟩, ⟨rfl, rfl, rfl⟩, ⟨rfl, rfl, rfl⟩, ⟨rfl, rfl⟩⟩
  all_goals (first | omega | (dsimp only; omega))
end Go.Proofs.Qxb6613083a
