/-
  THE ORDER of events, plainly.
-/
import Derived.Test.Qxb6613083aE0
namespace Go.Proofs.Qxb6613083a

theorem bef_iff (a b : Ev) : bef a b = true ↔ a.hi < b.hi ∨ (a.hi = b.hi ∧ (a.lo < b.lo ∨ (a.lo = b.lo ∧ a.ord < b.ord))) := by
  unfold bef
  split
  · split
    · simp only [decide_eq_true_eq]; omega
    · simp only [decide_eq_true_eq]; omega
  · simp only [decide_eq_true_eq]; omega
theorem bef_false (a b : Ev) : bef a b = false ↔ ¬ (a.hi < b.hi ∨ (a.hi = b.hi ∧ (a.lo < b.lo ∨ (a.lo = b.lo ∧ a.ord < b.ord)))) := by
  rw [← bef_iff, Bool.not_eq_true]
theorem bef_irrefl (a : Ev) : bef a a = false := by rw [bef_false]; omega
theorem bef_asymm {a b : Ev} (h : bef a b = true) : bef b a = false := by rw [bef_iff] at h; rw [bef_false]; omega
theorem bef_trans {a b c : Ev} (h : bef a b = true) (k : bef b c = true) : bef a c = true := by rw [bef_iff] at *; omega
/-- 'not later' carries over: b is not before a, c is not before b: c is not before a -/
theorem nbef_trans {a b c : Ev} (h : bef b a = false) (k : bef c b = false) : bef c a = false := by rw [bef_false] at *; omega
theorem bef_nbef {a b c : Ev} (h : bef a b = true) (k : bef c b = false) : bef a c = true := by rw [bef_iff] at *; rw [bef_false] at k; omega
theorem nbef_bef {a b c : Ev} (h : bef b a = false) (k : bef b c = true) : bef a c = true := by rw [bef_iff] at *; rw [bef_false] at h; omega
/-- the instants' part -/
def atB (a b : Ev) : Bool := decide (a.hi < b.hi) || (a.hi == b.hi && decide (a.lo < b.lo))
theorem bef_at (a b : Ev) : bef a b = (atB a b || ((a.hi == b.hi && a.lo == b.lo) && decide (a.ord < b.ord))) := by
  rw [Bool.eq_iff_iff, bef_iff]
  simp only [atB, Bool.or_eq_true, Bool.and_eq_true, decide_eq_true_eq, beq_iff_eq]
  omega
end Go.Proofs.Qxb6613083a
