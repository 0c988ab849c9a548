/-
  THE PLAIN LAW of 'linkTo inverts neighbor': 2,048 cases, by the kernel.
-/
import Derived.Test.Qxb6613077aFmtPlain2
namespace Go.Proofs.Qxb6613077aFmt
open Go.RowKit

/-- one link: what 'neighbors' names is what the model names; and where it names a point, the first link that leads there is this one -/
def chk1 (s p : Int) (n0 n1 n2 : Int) (l : Nat) : Bool :=
  let n := match l with | 0 => n0 | 1 => n1 | _ => n2
  n == mnF s p l && (decide (n < 0) || (laB n0 n1 n2 n && laL n0 n1 n2 n == (l : Int)))
def chk (s p : Int) : Bool :=
  !hasB s p || (chk1 s p (nbF s p 0) (nbF s p 1) (nbF s p 2) 0 && chk1 s p (nbF s p 0) (nbF s p 1) (nbF s p 2) 1 && chk1 s p (nbF s p 0) (nbF s p 1) (nbF s p 2) 2)
def chkRow (p : Nat) : Bool := (List.range 256).all fun s => chk s p
theorem rows_all : (List.range 8).all chkRow = true := by decide +kernel
theorem chk_all (s p : Int) (s0 : 0 ≤ s) (s1 : s ≤ 255) (p0 : 0 ≤ p) (p1 : p ≤ 7) : chk s p = true := by
  have h := List.all_eq_true.1 rows_all p.toNat (List.mem_range.2 (by omega))
  have h2 := List.all_eq_true.1 h s.toNat (List.mem_range.2 (by omega))
  rwa [Int.toNat_of_nonneg s0, Int.toNat_of_nonneg p0] at h2
/-- THE PLAIN LAW -/
theorem link_law (s p : Int) (s0 : 0 ≤ s) (s1 : s ≤ 255) (p0 : 0 ≤ p) (p1 : p ≤ 7) (hh : hasB s p = true) (l : Nat) (hl : l ≤ 2) :
    nbF s p l = mnF s p l ∧ (nbF s p l < 0 ∨ (laB (nbF s p 0) (nbF s p 1) (nbF s p 2) (nbF s p l) = true ∧ laL (nbF s p 0) (nbF s p 1) (nbF s p 2) (nbF s p l) = (l : Int))) := by
  have h := chk_all s p s0 s1 p0 p1
  simp only [chk, hh, Bool.not_true, Bool.false_or, Bool.and_eq_true] at h
  obtain ⟨⟨h0, h1⟩, h2⟩ := h
  have hl3 : l = 0 ∨ l = 1 ∨ l = 2 := by omega
  rcases hl3 with rfl | rfl | rfl
  · simpa only [chk1, Bool.and_eq_true, Bool.or_eq_true, beq_iff_eq, decide_eq_true_eq] using h0
  · simpa only [chk1, Bool.and_eq_true, Bool.or_eq_true, beq_iff_eq, decide_eq_true_eq] using h1
  · simpa only [chk1, Bool.and_eq_true, Bool.or_eq_true, beq_iff_eq, decide_eq_true_eq] using h2
end Go.Proofs.Qxb6613077aFmt
