/-
  PLAIN: what a pop takes, and what it leaves.
-/
import Derived.Test.Qxb6613083aG4
namespace Go.Proofs.Qxb6613083a
open Go.RowKit

/-- all that a queue holds -/
def Qs.live (s : Qs) : List Ev := s.l0.live ++ s.l1.live ++ s.tm.live
def Ln.srt (L : Ln) : Prop := Srt L.E L.h (L.n - L.h)
theorem Srt.first {E : Nat → Ev} {a k : Nat} (h : Srt E a k) : ∀ i, i < k → bef (E (a + i)) (E a) = false
  | 0, _ => bef_irrefl _
  | i + 1, hi => nbef_trans (h.first i (by omega)) (h i hi)
theorem Strict.lt {F : Nat → Ev} {n : Nat} (h : Strict F n) (i : Nat) : ∀ d, i + d + 1 < n → bef (F i) (F (i + d + 1)) = true
  | 0, hd => h i hd
  | d + 1, hd => bef_trans (h.lt i d (by omega)) (h (i + d + 1) hd)
theorem Popped.live {L L' : Ln} {e : Ev} (h : LPop L L' e) : L.live = e :: L'.live := by
  obtain ⟨h1, rfl, _, _, hp⟩ := h
  unfold Ln.live
  rw [show L.n - L.h = (L.n - L.h - 1) + 1 by omega, seg_cons]
  congr 1
  rw [show L.n - L.h - 1 = L'.n - L'.h by have := hp.1; omega]
  exact seg_congr fun i hi => (hp.2.2.1 i hi).symm
theorem LPop.srt {L L' : Ln} {e : Ev} (h : LPop L L' e) (hs : L.srt) : L'.srt := by
  obtain ⟨h1, _, _, _, hp⟩ := h
  intro i hi
  have a1 := hp.2.2.1 (i + 1) hi
  have a2 := hp.2.2.1 i (by omega)
  rw [a1, a2]
  have := hs (i + 1) (by have := hp.1; omega)
  rwa [show L.h + (i + 1 + 1) = L.h + 1 + (i + 1) by omega, show L.h + (i + 1) = L.h + 1 + i by omega] at this
theorem TPop.live {t t' : Tm} {e : Ev} (h : TPop t t' e) : t.live.Perm (e :: t'.live) := by
  obtain ⟨h1, rfl, _, _, hp⟩ := h
  unfold Tm.live
  rw [h1, seg_cons]
  exact hp.symm.cons _
theorem Step.live {s s' : Qs} {e : Ev} (h : Step s s' e) : s.live.Perm (e :: s'.live) := by
  unfold Qs.live
  rcases h.2 with ⟨h1, h2, h3⟩ | ⟨h1, h2, h3⟩ | ⟨h1, h2, h3⟩
  · rw [h2, h3, Popped.live h1]; exact List.Perm.refl _
  · rw [h2, h3, Popped.live h1, List.append_assoc]
    refine List.perm_middle.trans ?_
    rw [List.append_assoc]
    exact List.Perm.refl _
  · rw [h2, h3]
    exact ((TPop.live h1).append_left _).trans List.perm_middle
theorem Step.srt {s s' : Qs} {e : Ev} (h : Step s s' e) (h0 : s.l0.srt) (h1 : s.l1.srt) : s'.l0.srt ∧ s'.l1.srt := by
  rcases h.2 with ⟨a, b, _⟩ | ⟨a, b, _⟩ | ⟨_, b, c⟩
  · rw [b]; exact ⟨a.srt h0, h1⟩
  · rw [b]; exact ⟨h0, a.srt h1⟩
  · rw [b, c]; exact ⟨h0, h1⟩
/-- the first of each no earlier: none is earlier -/
theorem Least.all {s : Qs} {e : Ev} (h : Least s e) (h0 : s.l0.srt) (h1 : s.l1.srt) (ht : HeapP s.tm.E s.tm.n) : ∀ x, x ∈ s.live → bef x e = false := fun x hx => by
  unfold Qs.live Ln.live Tm.live at hx
  simp only [List.mem_append, mem_seg] at hx
  rcases hx with (⟨i, hi, rfl⟩ | ⟨i, hi, rfl⟩) | ⟨i, hi, rfl⟩
  · exact nbef_trans (h.1 (by omega)) (h0.first i hi)
  · exact nbef_trans (h.2.1 (by omega)) (h1.first i hi)
  · rw [Nat.zero_add]; exact nbef_trans (h.2.2 (by omega)) (heap_root ht i hi)
/-- one pop of a queue that holds F i, F (i+1), .. -/
theorem Step.next {s s' : Qs} {e : Ev} {F : Nat → Ev} {N i : Nat} (h : Step s s' e) (h0 : s.l0.srt) (h1 : s.l1.srt) (ht : HeapP s.tm.E s.tm.n) (hF : Strict F N) (hi : i < N) (hp : s.live.Perm (seg F i (N - i))) :
    e = F i ∧ s'.live.Perm (seg F (i + 1) (N - (i + 1))) := by
  have hl := h.live
  have he : e ∈ seg F i (N - i) := hp.mem_iff.1 (hl.mem_iff.2 (List.mem_cons_self))
  obtain ⟨d, hd, rfl⟩ := mem_seg.1 he
  have hFi : F i ∈ s.live := hp.mem_iff.2 (mem_seg.2 ⟨0, by omega, by rw [Nat.add_zero]⟩)
  have hm := h.1.all h0 h1 ht _ hFi
  have hd0 : d = 0 := by
    cases d with
    | zero => rfl
    | succ d =>
      have := hF.lt i d (by omega)
      rw [show i + (d + 1) = i + d + 1 by omega] at hm
      rw [hm] at this
      exact absurd this (by decide)
  subst hd0
  refine ⟨by rw [Nat.add_zero], ?_⟩
  have h2 := hl.symm.trans hp
  rw [show N - i = (N - (i + 1)) + 1 by omega, seg_cons, Nat.add_zero] at h2
  exact h2.cons_inv
/-- of a strictly ordered list no two are the same -/
def Apart (a b : Ev) : Prop := bef a b = true ∨ bef b a = true
theorem Apart.symm {a b : Ev} (h : Apart a b) : Apart b a := h.elim .inr .inl
theorem Apart.ne {a b : Ev} (h : Apart a b) : a ≠ b := fun e => by
  subst e
  rcases h with h | h <;> rw [bef_irrefl] at h <;> exact absurd h (by decide)
theorem Strict.apart {F : Nat → Ev} {n : Nat} (h : Strict F n) : ∀ k i, i + k ≤ n → (seg F i k).Pairwise Apart
  | 0, _, _ => List.Pairwise.nil
  | k + 1, i, hk => by
    rw [seg_cons]
    refine List.Pairwise.cons (fun x hx => ?_) (h.apart k (i + 1) (by omega))
    obtain ⟨d, hd, rfl⟩ := mem_seg.1 hx
    exact .inl (by have := h.lt i d (by omega); rwa [show i + d + 1 = i + 1 + d by omega] at this)
theorem Qs.apart {s : Qs} {F : Nat → Ev} {N i : Nat} (hF : Strict F N) (hi : i ≤ N) (hp : s.live.Perm (seg F i (N - i))) : s.live.Pairwise Apart :=
  hp.symm.pairwise (hF.apart (N - i) i (by omega)) Apart.symm
end Go.Proofs.Qxb6613083a
