/-
  PLAIN: which part of the queue gave the event.
-/
import Derived.Test.Qxb6613083aP4
namespace Go.Proofs.Qxb6613083a
open Go.RowKit

theorem seg_head {E : Nat → Ev} {p n : Nat} {e : Ev} {l : List Ev} (h : seg E p (n - p) = e :: l) : p < n ∧ E p = e ∧ l = seg E (p + 1) (n - (p + 1)) := by
  by_cases hp : p < n
  · rw [show n - p = (n - (p + 1)) + 1 by omega, seg_cons] at h
    injection h with h1 h2
    exact ⟨hp, h1, h2.symm⟩
  · rw [show n - p = 0 by omega, seg_zero] at h
    exact absurd h (by simp)
theorem seg_mem {E : Nat → Ev} {p n : Nat} (hp : p < n) : E p ∈ seg E p (n - p) := mem_seg.2 ⟨0, by omega, by rw [Nat.add_zero]⟩
/-- where the popped event came from -/
inductive Src (n0 p0 : Nat) (E0 : Nat → Ev) (n1 p1 : Nat) (E1 : Nat → Ev) (s s' : Qs) (e : Ev) : Prop
  | l0 (a : p0 < n0) (b : E0 p0 = e) (c : s'.l0.live = seg E0 (p0 + 1) (n0 - (p0 + 1))) (d : s'.l1 = s.l1) (t : s'.tm = s.tm) (p : LPop s.l0 s'.l0 e)
  | l1 (z : p0 < n0 → same e (E0 p0) = false) (a : p1 < n1) (b : E1 p1 = e) (c : s'.l1.live = seg E1 (p1 + 1) (n1 - (p1 + 1))) (d : s'.l0 = s.l0) (t : s'.tm = s.tm) (p : LPop s.l1 s'.l1 e)
  | tm (z : p0 < n0 → same e (E0 p0) = false) (y : p1 < n1 → same e (E1 p1) = false) (t : s.tm.n = s'.tm.n + 1) (c : s'.l0 = s.l0) (d : s'.l1 = s.l1) (p : TPop s.tm s'.tm e)
theorem Apart.same {a b : Ev} (h : Apart a b) : same b a = false := by
  cases e : Qxb6613083a.same b a with
  | false => rfl
  | true => exact absurd (same_eq e).symm h.ne
theorem Step.src {s s' : Qs} {e : Ev} (h : Step s s' e) (ha : s.live.Pairwise Apart) {n0 p0 n1 p1 : Nat} {E0 E1 : Nat → Ev} (h0 : s.l0.live = seg E0 p0 (n0 - p0)) (h1 : s.l1.live = seg E1 p1 (n1 - p1)) : Src n0 p0 E0 n1 p1 E1 s s' e := by
  unfold Qs.live at ha
  rw [List.append_assoc] at ha
  obtain ⟨_, hb, hc⟩ := List.pairwise_append.1 ha
  obtain ⟨_, _, hd⟩ := List.pairwise_append.1 hb
  rcases h.2 with ⟨a, b, c⟩ | ⟨a, b, c⟩ | ⟨a, b, c⟩
  · have hl := Popped.live a
    rw [h0] at hl
    obtain ⟨x, y, z⟩ := seg_head hl
    exact .l0 x y z b c a
  · have hl := Popped.live a
    have he : e ∈ s.l1.live := by rw [hl]; exact List.mem_cons_self
    rw [h1] at hl
    obtain ⟨x, y, z⟩ := seg_head hl
    exact .l1 (fun hp => (hc (E0 p0) (by rw [h0]; exact seg_mem hp) e (List.mem_append_left _ he)).same) x y z b c a
  · have hl := TPop.live a
    have he : e ∈ s.tm.live := hl.mem_iff.2 List.mem_cons_self
    exact .tm (fun hp => (hc (E0 p0) (by rw [h0]; exact seg_mem hp) e (List.mem_append_right _ he)).same) (fun hp => (hd (E1 p1) (by rw [h1]; exact seg_mem hp) e he).same) a.1 b c a
theorem oneQ (w : World) (e : Ev) : QAt (w.alloc (.cells #[.int .u64 e.hi, .int .u64 e.lo, .int .u64 e.ord, .int .u8 e.kind, .int .i64 e.user] 29)) w.heap.size 0 e :=
  ⟨by rw [alloc_cell]; rfl, by rw [alloc_cell]; rfl, by rw [alloc_cell]; rfl, by rw [alloc_cell]; rfl, by rw [alloc_cell]; rfl⟩
end Go.Proofs.Qxb6613083a
