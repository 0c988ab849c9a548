/-
  WALKS of a line: ZZnewLine, len, first, ZZlineLen, ZZlineFirst.
-/
import Derived.Test.Qxb6613083aE1
import Derived.Test.Qxb6613083aM1
namespace Go.Proofs.Qxb6613083a
open Go.RowKit

/-- A line at ⟨lb, lo⟩: its slice, its head; both may be written. -/
structure LnAt (w : World) (lb lo : Nat) (v : Value) (h : Int) : Prop where
  c0 : w.cell? ⟨lb, lo, none⟩ = some v
  c1 : w.cell? ⟨lb, lo + 1, none⟩ = some (.int .i64 h)
  f0 : w.frozen? ⟨lb, lo, none⟩ = false
  f1 : w.frozen? ⟨lb, lo + 1, none⟩ = false
theorem LnAt.lt {w : World} {lb lo : Nat} {v : Value} {h : Int} (l : LnAt w lb lo v h) : lb < w.heap.size := World.block_lt_of_cell? w _ l.c0
theorem LnAt.ch {S : Nat → Nat → Prop} {w w' : World} {lb lo : Nat} {v : Value} {h : Int} (l : LnAt w lb lo v h) (hc : Ch S w w') (h0 : ¬ S lb lo) (h1 : ¬ S lb (lo + 1)) : LnAt w' lb lo v h :=
  ⟨(hc.cell _ _ l.lt h0).trans l.c0, (hc.cell _ _ l.lt h1).trans l.c1, (hc.frozen _ _ l.lt).trans l.f0, (hc.frozen _ _ l.lt).trans l.f1⟩
theorem LnAt.below {w w' : World} {lb lo : Nat} {v : Value} {h : Int} (l : LnAt w lb lo v h) (hb : Below w.heap.size w w') : LnAt w' lb lo v h := l.ch (S := fun _ _ => False) (Ch.ofBelow hb) id id

theorem newLine_any (a : Option Addr) (n c : Nat) (h : Int) (w : World) :
    Calls Try.prog 27 #[.slice a n c, .int .i64 h] w fun r w' => r = .returned (.pointer (some ⟨w.heap.size, 0, none⟩)) ∧ LnAt w' w.heap.size 0 (.slice a n c) h ∧ Below w.heap.size w w' := by
  go_enter Try.func27, Try.ntmps27
  go_wp2
  go_ret
  exact ⟨rfl, ⟨by simp, by simp, by simp, by simp⟩, (Below.refl _ _).alloc (Nat.le_refl _) _⟩

set_option maxHeartbeats 400000 in
theorem len_any (lb lo : Nat) (a : Option Addr) (n c h : Nat) (w : World) (hn : n ≤ 1048576) (hh : h ≤ n) (l : LnAt w lb lo (.slice a n c) h) :
    Calls Try.prog 40 #[.pointer (some ⟨lb, lo, none⟩)] w fun r w' => r = .returned (.int .i64 ((n - h : Nat) : Int)) ∧ ∃ k, w' = w.drewN k := by
  obtain ⟨c0, c1, f0, f1⟩ := l
  have hwrap : IntKind.i64.wrap ((n : Int) - (h : Int)) = ((n - h : Nat) : Int) := by rw [IntKind.wrap_i64]; omega
  go_enter Try.func40, Try.ntmps40
  go_wp2
  go_quiet (fail)
  go_wp2
  go_ret
  exact ⟨rfl, _, rfl⟩

set_option maxHeartbeats 400000 in
theorem zzlineLen_any (lb lo : Nat) (a : Option Addr) (n c h : Nat) (w : World) (hn : n ≤ 1048576) (hh : h ≤ n) (l : LnAt w lb lo (.slice a n c) h) :
    Calls Try.prog 24 #[.pointer (some ⟨lb, lo, none⟩)] w fun r w' => r = .returned (.int .i64 ((n - h : Nat) : Int)) ∧ ∃ k, w' = w.drewN k := by
  go_enter Try.func24, Try.ntmps24
  go_wp2_with fail
  refine (len_any lb lo a n c h _ hn hh l).mono ?_
  rintro r w1 ⟨rfl, k, hw⟩
  subst hw
  go_wp2
  go_ret
  exact ⟨rfl, _, rfl⟩

set_option maxHeartbeats 400000 in
theorem first_nil (lb lo : Nat) (a : Option Addr) (n c : Nat) (w : World) (hn : n ≤ 1048576) (l : LnAt w lb lo (.slice a n c) n) :
    Calls Try.prog 41 #[.pointer (some ⟨lb, lo, none⟩)] w fun r w' => r = .returned (.pointer none) ∧ ∃ k, w' = w.drewN k := by
  have e : ((n - n : Nat) : Int) = 0 := by omega
  go_enter Try.func41, Try.ntmps41
  go_wp2_with fail
  refine (len_any lb lo a n c n _ hn (Nat.le_refl _) l).mono ?_
  rintro r w1 ⟨rfl, k, hw⟩
  subst hw
  rw [e]
  go_wp2
  go_ret
  exact ⟨rfl, _, rfl⟩

set_option maxHeartbeats 400000 in
theorem first_some (lb lo b o n c h : Nat) (w : World) (hn : n ≤ 1048576) (hh : h < n) (l : LnAt w lb lo (.slice (some ⟨b, o, none⟩) n c) h) :
    Calls Try.prog 41 #[.pointer (some ⟨lb, lo, none⟩)] w fun r w' => r = .returned (.pointer (some ⟨b, o + h * 7, none⟩)) ∧ ∃ k, w' = w.drewN k := by
  have e : (((n - h : Nat) : Int) == 0) = false := beq_eq_false_iff_ne.2 (by omega)
  have hi : (h : Int) < n := by omega
  go_enter Try.func41, Try.ntmps41
  go_wp2_with fail
  refine (len_any lb lo _ n c h _ hn (by omega) l).mono ?_
  rintro r w1 ⟨rfl, k, hw⟩
  subst hw
  obtain ⟨c0, c1, f0, f1⟩ := l
  go_wp2
  go_quiet (fail)
  go_wp2
  go_ret
  exact ⟨rfl, k + nq, World.drewN_drewN _ _ _⟩

theorem zzlineFirst_nil (lb lo : Nat) (a : Option Addr) (n c : Nat) (w : World) (hn : n ≤ 1048576) (l : LnAt w lb lo (.slice a n c) n) :
    Calls Try.prog 28 #[.pointer (some ⟨lb, lo, none⟩)] w fun r w' => r = .returned (.pointer none) ∧ ∃ k, w' = w.drewN k := by
  go_enter Try.func28, Try.ntmps28
  go_wp2_with fail
  refine (first_nil lb lo a n c _ hn l).mono ?_
  rintro r w1 ⟨rfl, k, hw⟩
  subst hw
  go_wp2
  go_ret
  exact ⟨rfl, _, rfl⟩
theorem zzlineFirst_some (lb lo b o n c h : Nat) (w : World) (hn : n ≤ 1048576) (hh : h < n) (l : LnAt w lb lo (.slice (some ⟨b, o, none⟩) n c) h) :
    Calls Try.prog 28 #[.pointer (some ⟨lb, lo, none⟩)] w fun r w' => r = .returned (.pointer (some ⟨b, o + h * 7, none⟩)) ∧ ∃ k, w' = w.drewN k := by
  go_enter Try.func28, Try.ntmps28
  go_wp2_with fail
  refine (first_some lb lo b o n c h _ hn hh l).mono ?_
  rintro r w1 ⟨rfl, k, hw⟩
  subst hw
  go_wp2
  go_ret
  exact ⟨rfl, _, rfl⟩
end Go.Proofs.Qxb6613083a
