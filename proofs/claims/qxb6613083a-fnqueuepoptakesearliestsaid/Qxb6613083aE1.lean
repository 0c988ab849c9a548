import Derived.Test.Qxb6613083aProg
import Derived.Test.Qxb6613083aE0
import Derived.WalkSpells
import Derived.WalkLawsBesides
import Derived.Deep.QuietTactic
import Derived.BigQuiet
import Derived.Deep.RegionHeld3
import Derived.Laws.StructEq
import Derived.Outline
namespace Go.Proofs.Qxb6613083a
open Go.RowKit

set_option maxHeartbeats 400000 in
theorem newEvent_any (e : Ev) (w : World) :
    Calls Try.prog 36 #[.int .u64 e.hi, .int .u64 e.lo, .int .u64 e.ord, .int .u8 e.kind, .int .i64 e.user] w fun r w' => r = .returned (.agg #[.int .u64 e.hi, .int .u64 e.lo, .int .u64 e.ord, .int .u8 e.kind, .int .i64 e.user, .pointer none, .pointer none]) ∧ w' = w.alloc (.cells (ecells e).toArray 41) := by
  go_enter Try.func36, Try.ntmps36
  go_wp2
  exact bodyPost_ret (v := .agg #[.int .u64 e.hi, .int .u64 e.lo, .int .u64 e.ord, .int .u8 e.kind, .int .i64 e.user, .pointer none, .pointer none]) (by simp [results, Try.results36, go_sem]) rfl ⟨rfl, rfl⟩

set_option maxHeartbeats 400000 in
theorem fields_any (e : Ev) (w : World) :
    Calls Try.prog 37 #[.agg #[.int .u64 e.hi, .int .u64 e.lo, .int .u64 e.ord, .int .u8 e.kind, .int .i64 e.user, .pointer none, .pointer none]] w fun r w' => r = .returned (.tuple #[.int .u64 e.hi, .int .u64 e.lo, .int .u64 e.ord, .int .u8 e.kind, .int .i64 e.user]) ∧ ∃ n, w' = (w.alloc (.cells (ecells e).toArray 41)).drewN n := by
  go_enter Try.func37, Try.ntmps37
  go_wp2
  go_quiet (fail)
  go_wp2
  exact bodyPost_ret (v := .tuple #[.int .u64 e.hi, .int .u64 e.lo, .int .u64 e.ord, .int .u8 e.kind, .int .i64 e.user]) (by simp [results, Try.results37, go_sem]) rfl ⟨rfl, _, rfl⟩

set_option maxHeartbeats 400000 in
theorem fromEvent_any (e : Ev) (w : World) :
    Calls Try.prog 14 #[.agg #[.int .u64 e.hi, .int .u64 e.lo, .int .u64 e.ord, .int .u8 e.kind, .int .i64 e.user, .pointer none, .pointer none]] w fun r w' => r = .returned (.agg #[.int .u64 e.hi, .int .u64 e.lo, .int .u64 e.ord, .int .u8 e.kind, .int .i64 e.user]) ∧ Below w.heap.size w w' := by
  go_enter Try.func14, Try.ntmps14
  go_wp2_with fail
  refine (fields_any e _).mono ?_
  rintro r w1 ⟨rfl, n, hw⟩
  subst hw
  go_wp2
  refine bodyPost_ret (v := .agg #[.int .u64 e.hi, .int .u64 e.lo, .int .u64 e.ord, .int .u8 e.kind, .int .i64 e.user]) (by simp [results, Try.results14, go_sem]) rfl ⟨rfl, ?_⟩
  exact (((((((((((below_drewN ((((Below.refl _ _).alloc (Nat.le_refl _) _).alloc (by simp) _).alloc (by simp; omega) _) _)).setCell (by simp) _)).setCell (by simp) _)).setCell (by simp) _)).setCell (by simp) _)).setCell (by simp) _)

set_option maxHeartbeats 400000 in
theorem before_any (a b : Ev) (w : World) :
    Calls Try.prog 35 #[.agg #[.int .u64 a.hi, .int .u64 a.lo, .int .u64 a.ord, .int .u8 a.kind, .int .i64 a.user], .agg #[.int .u64 b.hi, .int .u64 b.lo, .int .u64 b.ord, .int .u8 b.kind, .int .i64 b.user]] w fun r w' => r = .returned (.bool (bef a b)) ∧ w' = (w.alloc (.cells (qcells a).toArray 29)).alloc (.cells (qcells b).toArray 29) := by
  by_cases h1 : a.hi = b.hi
  · have b1 : (a.hi != b.hi) = false := by simp [h1]
    by_cases h2 : a.lo = b.lo
    · have b2 : (a.lo != b.lo) = false := by simp [h2]
      have E : Hid (bef a b = decide (a.ord < b.ord)) := by simp [Hid, bef, h1, h2]
      clear h1 h2
      go_enter Try.func35, Try.ntmps35
      go_wp2
      go_ret
      exact ⟨by rw [E.out]; rfl, rfl⟩
    · have b2 : (a.lo != b.lo) = true := by simp [h2]
      have E : Hid (bef a b = decide (a.lo < b.lo)) := by simp [Hid, bef, h1, h2]
      clear h1 h2
      go_enter Try.func35, Try.ntmps35
      go_wp2
      go_ret
      exact ⟨by rw [E.out]; rfl, rfl⟩
  · have b1 : (a.hi != b.hi) = true := by simp [h1]
    have E : Hid (bef a b = decide (a.hi < b.hi)) := by simp [Hid, bef, h1]
    clear h1
    go_enter Try.func35, Try.ntmps35
    go_wp2
    go_ret
    exact ⟨by rw [E.out]; rfl, rfl⟩
end Go.Proofs.Qxb6613083a
