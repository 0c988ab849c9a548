/-
  PLAIN: the source as the law reckons it; two sorted rows of the same events are the same.
-/
import Derived.Test.Qxb6613083aG8
namespace Go.Proofs.Qxb6613083a
open Go.RowKit

/-- strictly ordered, the same events: the same rows -/
theorem strict_unique : ∀ (n : Nat) {F G : Nat → Ev} {a b : Nat}, (∀ i, i + 1 < n → bef (F (a + i)) (F (a + i + 1)) = true) → (∀ i, i + 1 < n → bef (G (b + i)) (G (b + i + 1)) = true) → (seg F a n).Perm (seg G b n) → seg F a n = seg G b n
  | 0, _, _, _, _, _, _, _ => rfl
  | n + 1, F, G, a, b, hF, hG, hp => by
    have lF : ∀ d, d < n → bef (F a) (F (a + 1 + d)) = true := by
      intro d
      induction d with
      | zero => intro h; have := hF 0 (by omega); simpa using this
      | succ d ih => intro h; have h1 := ih (by omega); have h2 := hF (d + 1) (by omega); rw [show a + (d + 1) = a + 1 + d by omega] at h2; exact bef_trans h1 h2
    have lG : ∀ d, d < n → bef (G b) (G (b + 1 + d)) = true := by
      intro d
      induction d with
      | zero => intro h; have := hG 0 (by omega); simpa using this
      | succ d ih => intro h; have h1 := ih (by omega); have h2 := hG (d + 1) (by omega); rw [show b + (d + 1) = b + 1 + d by omega] at h2; exact bef_trans h1 h2
    rw [seg_cons, seg_cons] at hp ⊢
    have he : F a = G b := by
      have h1 : F a ∈ G b :: seg G (b + 1) n := hp.mem_iff.1 List.mem_cons_self
      have h2 : G b ∈ F a :: seg F (a + 1) n := hp.mem_iff.2 List.mem_cons_self
      rcases List.mem_cons.1 h1 with h1 | h1
      · exact h1
      · rcases List.mem_cons.1 h2 with h2 | h2
        · exact h2.symm
        · obtain ⟨i, hi, e1⟩ := mem_seg.1 h1
          obtain ⟨j, hj, e2⟩ := mem_seg.1 h2
          have x := lG i hi
          have y := lF j hj
          rw [e1] at x
          rw [e2] at y
          rw [bef_asymm x] at y
          exact absurd y (by decide)
    rw [he] at hp ⊢
    congr 1
    exact strict_unique n (fun i hi => by have := hF (i + 1) (by omega); rwa [show a + (i + 1) = a + 1 + i by omega] at this) (fun i hi => by have := hG (i + 1) (by omega); rwa [show b + (i + 1) = b + 1 + i by omega] at this) hp.cons_inv
theorem strict_seg {F : Nat → Ev} {N a k : Nat} (h : Strict F N) (hk : a + k ≤ N) : ∀ i, i + 1 < k → bef (F (a + i)) (F (a + i + 1)) = true := fun i hi => h (a + i) (by omega)
/-- sorted, no two the same: strictly sorted -/
theorem strict_of_apart {F : Nat → Ev} {N : Nat} {l : List Ev} (hp : (seg F 0 N).Perm l) (ha : l.Pairwise Apart) (hs : Srt F 0 N) : Strict F N := fun i hi => by
  have ha' := hp.symm.pairwise ha Apart.symm
  have h1 := pair_get ha' (i := i) (j := i + 1) (by omega) hi
  have h2 := hs i hi
  rw [Nat.zero_add, Nat.zero_add] at h2
  rcases h1 with h1 | h1
  · exact h1
  · rw [h2] at h1; exact absurd h1 (by decide)
theorem Qs.apart_tm {s : Qs} (h : s.live.Pairwise Apart) : (seg s.tm.E 0 s.tm.n).Pairwise Apart := by
  unfold Qs.live at h
  exact (List.pairwise_append.1 h).2.1
/-- the timed events sorted: what is left of them, where nothing was taken -/
theorem sorted_same {F G T : Nat → Ev} {n : Nat} (ha : (seg T 0 n).Pairwise Apart) (pF : (seg F 0 n).Perm (seg T 0 n)) (sF : Srt F 0 n) (pG : (seg G 0 n).Perm (seg T 0 n)) (sG : Srt G 0 n) : ∀ i, i < n → F i = G i := fun i hi => by
  have := strict_unique n (a := 0) (b := 0) (strict_seg (strict_of_apart pF ha sF) (by omega)) (strict_seg (strict_of_apart pG ha sG) (by omega)) (pF.trans pG.symm)
  have := (seg_eq this).2 i hi
  simpa using this
/-- and where the first was -/
theorem sorted_rest {F G T T' : Nat → Ev} {m : Nat} {e : Ev} (ha : (seg T 0 (m + 1)).Pairwise Apart) (pF : (seg F 0 m).Perm (seg T' 0 m)) (sF : Srt F 0 m) (pG : (seg G 0 (m + 1)).Perm (seg T 0 (m + 1))) (sG : Srt G 0 (m + 1)) (hp : (seg T 0 (m + 1)).Perm (e :: seg T' 0 m)) (hl : ∀ x, x ∈ seg T 0 (m + 1) → bef x e = false) : ∀ i, i < m → F i = G (1 + i) := fun i hi => by
  have stG := strict_of_apart pG ha sG
  have hg := pG.trans hp
  rw [seg_cons] at hg
  have h0 : G 0 = e := by
    have h1 : e ∈ G 0 :: seg G (0 + 1) m := hg.mem_iff.2 List.mem_cons_self
    rcases List.mem_cons.1 h1 with h1 | h1
    · exact h1.symm
    · obtain ⟨j, hj, e1⟩ := mem_seg.1 h1
      have x := stG.lt 0 j (by omega)
      rw [show 0 + j + 1 = 0 + 1 + j by omega, e1] at x
      have y := hl (G 0) (pG.mem_iff.1 (mem_seg.2 ⟨0, by omega, rfl⟩))
      rw [y] at x
      exact absurd x (by decide)
  rw [h0] at hg
  have hg' := hg.cons_inv
  have ha' : (seg T' 0 m).Pairwise Apart := (List.pairwise_cons.1 (hp.pairwise ha Apart.symm)).2
  have := strict_unique m (a := 0) (b := 0 + 1) (strict_seg (strict_of_apart pF ha' sF) (by omega)) (strict_seg stG (by omega)) (pF.trans hg'.symm)
  have := (seg_eq this).2 i hi
  simpa using this
theorem same_comm (a b : Ev) : same a b = same b a := by
  cases h : same b a with
  | true => rw [same_eq h]; exact same_self _
  | false =>
    cases h2 : same a b with
    | false => rfl
    | true => rw [same_eq h2, same_self] at h; exact absurd h (by decide)
/-- the source as the law reckons it is the part that gave the event -/
theorem Src.num {n0 p0 n1 p1 : Nat} {E0 E1 : Nat → Ev} {s s' : Qs} {e : Ev} (h : Src n0 p0 E0 n1 p1 E1 s s' e) {t0 t1 : Bool} (h0 : t0 = (decide (p0 < n0) && same (E0 p0) e)) (h1 : t1 = (decide (p1 < n1) && same (E1 p1) e)) {src : Nat} (hs : src = if t0 = true then 0 else if t1 = true then 1 else 2) :
    (src = 0 ∧ p0 < n0 ∧ s'.l0.live = seg E0 (p0 + 1) (n0 - (p0 + 1)) ∧ s'.l1 = s.l1 ∧ s'.tm = s.tm ∧ LPop s.l0 s'.l0 e) ∨ (src = 1 ∧ p1 < n1 ∧ s'.l1.live = seg E1 (p1 + 1) (n1 - (p1 + 1)) ∧ s'.l0 = s.l0 ∧ s'.tm = s.tm ∧ LPop s.l1 s'.l1 e) ∨ (src = 2 ∧ s'.l0 = s.l0 ∧ s'.l1 = s.l1 ∧ TPop s.tm s'.tm e) := by
  have z0 : (p0 < n0 → same e (E0 p0) = false) → t0 = false := fun z => by
    rw [h0]
    by_cases hp : p0 < n0
    · rw [same_comm, z hp, Bool.and_false]
    · simp [hp]
  have z1 : (p1 < n1 → same e (E1 p1) = false) → t1 = false := fun z => by
    rw [h1]
    by_cases hp : p1 < n1
    · rw [same_comm, z hp, Bool.and_false]
    · simp [hp]
  cases h with
  | l0 a b c d t p => exact .inl ⟨by rw [hs, h0, b, same_self]; simp [a], a, c, d, t, p⟩
  | l1 z a b c d t p => exact .inr (.inl ⟨by rw [hs, z0 z, h1, b, same_self]; simp [a], a, c, d, t, p⟩)
  | tm z y t c d p => exact .inr (.inr ⟨by rw [hs, z0 z, z1 y]; simp, c, d, p⟩)
/-- the cleared cells ahead of the head -/
def Ln.clr (L : Ln) : Prop := ∀ i, i < L.h → L.E i = ev0
theorem LPop.clr {L L' : Ln} {e : Ev} (h : LPop L L' e) (hc : L.clr) : L'.clr := h.2.2.2.2.2.2.2 hc
theorem LineP.clr {n k : Nat} {E : Nat → Ev} (h : LineP n E (k : Int)) : ∀ i, i < k → E i = ev0 := fun i hi => same_eq (h.2.2.1 i (by omega))
end Go.Proofs.Qxb6613083a
