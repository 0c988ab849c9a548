/-
  PLAIN: the queue as it stands at the start; the one walk of a pop with what it leaves.
-/
import Derived.Test.Qxb6613083aG6
namespace Go.Proofs.Qxb6613083a
open Go.RowKit Go.BigFrame

theorem srt_of_line {n k : Nat} {E : Nat → Ev} (h : LineP n E (k : Int)) : Srt E k (n - k) := fun i hi => by
  have := h.2.2.2 (k + (i + 1)) (by omega) (by omega)
  rwa [show k + (i + 1) - 1 = k + i by omega] at this
theorem QOK.open_ {n0 n1 n2 : Nat} {h0 h1 : Int} {E0 E1 E2 : Nat → Ev} (h : QOK n0 h0 E0 n1 h1 E1 n2 E2) : ∃ k0 k1 : Nat, h0 = (k0 : Int) ∧ h1 = (k1 : Int) ∧ k0 ≤ n0 / 2 ∧ k1 ≤ n1 / 2 ∧ LineP n0 E0 k0 ∧ LineP n1 E1 k1 ∧ HeapP E2 n2 ∧
    ∃ F, (seg F 0 (n0 - k0 + (n1 - k1) + n2)).Perm (liveL n0 k0 E0 n1 k1 E1 n2 E2) ∧ Strict F (n0 - k0 + (n1 - k1) + n2) := by
  obtain ⟨l0, l1, hp, F, hpm, hs⟩ := h
  obtain ⟨k0, rfl⟩ := Int.eq_ofNat_of_zero_le l0.1
  obtain ⟨k1, rfl⟩ := Int.eq_ofNat_of_zero_le l1.1
  rw [Int.toNat_natCast, Int.toNat_natCast] at hpm hs
  exact ⟨k0, k1, rfl, rfl, by have := l0.2.1; omega, by have := l1.2.1; omega, l0, l1, hp, F, hpm, hs⟩
theorem pair_get {R : Ev → Ev → Prop} {F : Nat → Ev} {N : Nat} (h : (seg F 0 N).Pairwise R) {i j : Nat} (hij : i < j) (hj : j < N) : R (F i) (F j) := by
  have := List.pairwise_iff_getElem.1 h i j (by rw [seg_len]; omega) (by rw [seg_len]; omega) hij
  simpa [seg] using this
/-- sorted, and the same events as a strictly sorted row: strictly sorted -/
theorem strict_of_srt {F G : Nat → Ev} {N : Nat} (hG : Strict G N) (hp : (seg F 0 N).Perm (seg G 0 N)) (hs : Srt F 0 N) : Strict F N := fun i hi => by
  have ha := hp.symm.pairwise (hG.apart N 0 (by omega)) Apart.symm
  have h1 := pair_get ha (i := i) (j := i + 1) (by omega) hi
  have h2 := hs i hi
  rw [Nat.zero_add, Nat.zero_add] at h2
  rcases h1 with h1 | h1
  · exact h1
  · rw [h2] at h1; exact absurd h1 (by decide)
/-- a queue that holds F i, F (i+1), .. -/
structure Hol (F : Nat → Ev) (N i : Nat) (s : Qs) : Prop where
  s0 : s.l0.srt
  s1 : s.l1.srt
  live : s.live.Perm (seg F i (N - i))
theorem Hol.len {F : Nat → Ev} {N i : Nat} {s : Qs} (h : Hol F N i s) : (s.l0.n - s.l0.h) + (s.l1.n - s.l1.h) + s.tm.n = N - i := by
  have := h.live.length_eq
  unfold Qs.live Ln.live Tm.live at this
  simp only [List.length_append, seg_len] at this
  exact this
theorem Hol.ne {F : Nat → Ev} {N i : Nat} {s : Qs} (h : Hol F N i s) (hi : i < N) : s.l0.h < s.l0.n ∨ s.l1.h < s.l1.n ∨ 0 < s.tm.n := by
  have := h.len
  omega
theorem qpop_next (B qb : Nat) (dl : Int) (s : Qs) (F : Nat → Ev) (N i : Nat) (hF : Strict F N) (hi : i < N) (hh : Hol F N i s) (w : World) (hq : QSt w B qb dl s) (hB : B ≤ w.heap.size) :
    Calls Try.prog 15 #[.pointer (some ⟨qb, 0, none⟩)] w fun r w' => ∃ s', r = .returned (.agg #[.int .u64 (F i).hi, .int .u64 (F i).lo, .int .u64 (F i).ord, .int .u8 (F i).kind, .int .i64 (F i).user, .pointer none, .pointer none]) ∧ QSt w' B qb dl s' ∧ Hol F N (i + 1) s' ∧ Step s s' (F i) ∧ Below B w w' :=
  (zzqpop_any B qb dl s w hq hB (hh.ne hi)).mono fun r w' ⟨s', e, hr, q', st, hb⟩ => by
    obtain ⟨he, hl⟩ := st.next hh.s0 hh.s1 hq.qt.heap hF hi hh.live
    subst he
    exact ⟨s', hr, q', ⟨(st.srt hh.s0 hh.s1).1, (st.srt hh.s0 hh.s1).2, hl⟩, st, hb⟩
/-- the queue just made -/
theorem Hol.made {F : Nat → Ev} {n0 n1 n2 k0 k1 N : Nat} {E0 E1 E2 : Nat → Ev} {s : Qs} (p0 : LineP n0 E0 k0) (p1 : LineP n1 E1 k1) (hp : (seg F 0 N).Perm (liveL n0 k0 E0 n1 k1 E1 n2 E2))
    (e0 : s.l0.n = n0 ∧ s.l0.h = k0 ∧ s.l0.E = E0) (e1 : s.l1.n = n1 ∧ s.l1.h = k1 ∧ s.l1.E = E1) (e2 : s.tm.n = n2 ∧ s.tm.E = E2) : Hol F N 0 s := by
  refine ⟨?_, ?_, ?_⟩
  · unfold Ln.srt; rw [e0.1, e0.2.1, e0.2.2]; exact srt_of_line p0
  · unfold Ln.srt; rw [e1.1, e1.2.1, e1.2.2]; exact srt_of_line p1
  · unfold Qs.live Ln.live Tm.live
    rw [e0.1, e0.2.1, e0.2.2, e1.1, e1.2.1, e1.2.2, e2.1, e2.2]
    exact hp.symm
theorem Hol.empty {F : Nat → Ev} {N : Nat} {s : Qs} (h : Hol F N N s) : s.l0.n - s.l0.h = 0 ∧ s.l1.n - s.l1.h = 0 ∧ s.tm.n = 0 := by
  have := h.len
  omega
end Go.Proofs.Qxb6613083a
