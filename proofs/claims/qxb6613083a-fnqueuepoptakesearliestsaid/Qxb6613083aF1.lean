/-
  WALKS of instant.before, event.before.
-/
import Derived.Test.Qxb6613083aE1
import Derived.Test.Qxb6613083aM1
import Derived.Test.Qxb6613083aB0
import Derived.Test.Qxb6613083aK0
import Derived.Deep.DeepCutAuto
namespace Go.Proofs.Qxb6613083a
open Go.RowKit

theorem eql36 (a0 a1 b0 b1 : Int) (w : World) : (binOp BinOp.eql 36 (.agg #[.int .u64 a0, .int .u64 a1]) (.agg #[.int .u64 b0, .int .u64 b1])).run Try.prog w = .ok (.bool (a0 == b0 && a1 == b1)) w := by
  go_simp
  cases h1 : a0 == b0 <;> cases h2 : a1 == b1 <;> simp_all
attribute [local go_sem ↓] eql36

set_option maxHeartbeats 400000 in
theorem instBefore_any (a b : Ev) (w : World) :
    Calls Try.prog 48 #[.agg #[.int .u64 a.hi, .int .u64 a.lo], .agg #[.int .u64 b.hi, .int .u64 b.lo]] w fun r w' => r = .returned (.bool (atB a b)) ∧ Below w.heap.size w w' := by
  have hB : ∀ x y : Array Value, Below w.heap.size w ((w.alloc (.cells x 36)).alloc (.cells y 36)) := fun _ _ => ((Below.refl _ _).alloc (Nat.le_refl _) _).alloc (by simp) _
  by_cases h1 : a.hi < b.hi
  · have E : Hid (atB a b = true) := by simp [Hid, atB, h1]
    go_enter Try.func48, Try.ntmps48
    go_wp2
    go_ret
    exact ⟨by rw [E.out]; rfl, hB _ _⟩
  · by_cases h2 : a.hi = b.hi
    · have E : Hid (atB a b = decide (a.lo < b.lo)) := by simp [Hid, atB, h2]
      have h2b : (a.hi == b.hi) = true := by simp [h2]
      have h1b : decide (a.hi < b.hi) = false := decide_eq_false h1
      clear h2
      go_enter Try.func48, Try.ntmps48
      go_wp2
      go_ret
      exact ⟨by rw [E.out]; rfl, hB _ _⟩
    · have E : Hid (atB a b = false) := by simp [Hid, atB, h1, h2]
      have h2b : (a.hi == b.hi) = false := by simp [h2]
      have h1b : decide (a.hi < b.hi) = false := decide_eq_false h1
      clear h2
      go_enter Try.func48, Try.ntmps48
      go_wp2
      go_ret
      exact ⟨by rw [E.out]; rfl, hB _ _⟩

open Go.BigFrame
set_option maxHeartbeats 1000000 in
theorem evBefore_any (b o b' o' : Nat) (e f : Ev) (w : World) (h1 : EAt w b o e) (h2 : EAt w b' o' f) :
    Calls Try.prog 45 #[.pointer (some ⟨b, o, none⟩), .pointer (some ⟨b', o', none⟩)] w fun r w' => r = .returned (.bool (bef e f)) ∧ Below w.heap.size w w' := by
  have e0 : ∀ x : BW w, EAt x.v b o e := h1.bw
  have f0 : ∀ x : BW w, EAt x.v b' o' f := h2.bw
  cases hat : atB e f with
  | true =>
    have E : Hid (bef e f = true) := by rw [Hid, bef_at, hat]; rfl
    go_enter Try.func45, Try.ntmps45
    go_wp2
    refine wp_region_bw (by kernel_rfl) (by kernel_rfl) ?_
    repeat (go_big_quiet_step (exact bw_of (hat ▸ instBefore_any e f _)))
    refine wpQuiet_nil ?_
    rintro _ ⟨⟨w1, hb1⟩, rfl⟩
    go_wp2
    go_ret
    exact ⟨by rw [E.out]; rfl, hb1⟩
  | false =>
    cases hq : (e.hi == f.hi && e.lo == f.lo) with
    | true =>
      have E : Hid (bef e f = decide (e.ord < f.ord)) := by rw [Hid, bef_at, hat, hq]; rfl
      go_enter Try.func45, Try.ntmps45
      go_wp2
      refine wp_region_bw (by kernel_rfl) (by kernel_rfl) ?_
      repeat (go_big_quiet_step (exact bw_of (hat ▸ instBefore_any e f _)))
      refine wpQuiet_nil ?_
      rintro _ ⟨⟨w1, hb1⟩, rfl⟩
      go_wp2
      go_ret
      exact ⟨by rw [E.out]; rfl, hb1⟩
    | false =>
      have E : Hid (bef e f = false) := by rw [Hid, bef_at, hat, hq]; rfl
      go_enter Try.func45, Try.ntmps45
      go_wp2
      refine wp_region_bw (by kernel_rfl) (by kernel_rfl) ?_
      repeat (go_big_quiet_step (exact bw_of (hat ▸ instBefore_any e f _)))
      refine wpQuiet_nil ?_
      rintro _ ⟨⟨w1, hb1⟩, rfl⟩
      go_wp2
      go_ret
      exact ⟨by rw [E.out]; rfl, hb1⟩
end Go.Proofs.Qxb6613083a
