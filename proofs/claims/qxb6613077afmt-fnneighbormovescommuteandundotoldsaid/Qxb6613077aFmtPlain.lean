/-
  THE PLAIN FUNCTIONS of the hypercircle laws: what each Go function computes, no Go in sight.
-/
import Derived.WalkKit
namespace Go.Proofs.Qxb6613077aFmt
open Go.RowKit

/-- does the set s hold point p? -/
def hasB (s p : Int) : Bool := bits BinOp.and IntKind.u8 s (2 ^ p.toNat % 256) != 0
/-- the opposite point -/
def oppI (p : Int) : Int := bits BinOp.xor IntKind.i64 p 4
/-- the loop of 'next', with fuel -/
def nextAt (s p step : Int) : Nat → Int → Int
  | 0, _ => p
  | n + 1, q => if q = p then p else if hasB s q then q else nextAt s p step n ((q + step) % 8)
def nextF (s p step : Int) : Int := nextAt s p step 8 ((p + step) % 8)
/-- 'neighbors': the three points -/
def nb0 (opp : Int) (h : Bool) : Int := if h then opp else -1
def nb1 (p opp cw : Int) (h : Bool) : Int := if cw = p ∨ (cw = opp ∧ h = true) then -1 else cw
def nb2 (p opp cw cc : Int) (h : Bool) : Int := if cc = p ∨ cc = cw ∨ (cc = opp ∧ h = true) then -1 else cc
def nbF (s p : Int) (k : Nat) : Int :=
  match k with
  | 0 => nb0 (oppI p) (hasB s (oppI p))
  | 1 => nb1 p (oppI p) (nextF s p 1) (hasB s (oppI p))
  | _ => nb2 p (oppI p) (nextF s p 1) (nextF s p 7) (hasB s (oppI p))

/-- 'linkAmong': the first link that leads to q -/
def laL (x0 x1 x2 q : Int) : Int := if x0 = q then 0 else if x1 = q then 1 else if x2 = q then 2 else 0
def laB (x0 x1 x2 q : Int) : Bool := if x0 = q then true else if x1 = q then true else if x2 = q then true else false

theorem oppI_eq (p : Int) (h0 : 0 ≤ p) (h1 : p ≤ 7) : oppI p = (p + 4) % 8 := by
  have : p = 0 ∨ p = 1 ∨ p = 2 ∨ p = 3 ∨ p = 4 ∨ p = 5 ∨ p = 6 ∨ p = 7 := by omega
  rcases this with rfl | rfl | rfl | rfl | rfl | rfl | rfl | rfl <;> decide +kernel
theorem oppI_bd (p : Int) (h0 : 0 ≤ p) (h1 : p ≤ 7) : 0 ≤ oppI p ∧ oppI p ≤ 7 := by
  rw [oppI_eq p h0 h1]; omega
theorem nextAt_bd (s p step : Int) (h0 : 0 ≤ p) (h1 : p ≤ 7) : ∀ (n : Nat) (q : Int), 0 ≤ q → q ≤ 7 → 0 ≤ nextAt s p step n q ∧ nextAt s p step n q ≤ 7
  | 0, q, _, _ => by simp only [nextAt]; omega
  | n + 1, q, a, b => by
    simp only [nextAt]
    split
    · omega
    · split
      · omega
      · exact nextAt_bd s p step h0 h1 n _ (by omega) (by omega)
theorem nextF_bd (s p step : Int) (h0 : 0 ≤ p) (h1 : p ≤ 7) : 0 ≤ nextF s p step ∧ nextF s p step ≤ 7 :=
  nextAt_bd s p step h0 h1 8 _ (by omega) (by omega)
end Go.Proofs.Qxb6613077aFmt
