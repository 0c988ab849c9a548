/-
  PLAIN: segments of a row as lists; the heap; sifting down.
-/
import Derived.Test.Qxb6613083aB0
import Derived.Test.Qxb6613083aM1
namespace Go.Proofs.Qxb6613083a

/-- k elements from place a on -/
def seg (E : Nat → Ev) (a k : Nat) : List Ev := (List.range k).map fun i => E (a + i)
theorem seg_zero (E : Nat → Ev) (a : Nat) : seg E a 0 = [] := rfl
theorem seg_len (E : Nat → Ev) (a k : Nat) : (seg E a k).length = k := by simp [seg]
theorem seg_succ (E : Nat → Ev) (a k : Nat) : seg E a (k + 1) = seg E a k ++ [E (a + k)] := by simp [seg, List.range_succ]
theorem seg_congr {E F : Nat → Ev} {a b k : Nat} (h : ∀ i, i < k → E (a + i) = F (b + i)) : seg E a k = seg F b k := by
  unfold seg
  refine List.map_congr_left fun i hi => h i (by simpa using hi)
theorem seg_append (E : Nat → Ev) (a k l : Nat) : seg E a (k + l) = seg E a k ++ seg E (a + k) l := by
  induction l with
  | zero => simp [seg_zero]
  | succ l ih => rw [← Nat.add_assoc, seg_succ, ih, seg_succ, List.append_assoc, Nat.add_assoc]
theorem seg_cons (E : Nat → Ev) (a k : Nat) : seg E a (k + 1) = E a :: seg E (a + 1) k := by
  rw [Nat.add_comm k 1, seg_append]; simp [seg]
theorem mem_seg {E : Nat → Ev} {a k : Nat} {e : Ev} : e ∈ seg E a k ↔ ∃ i, i < k ∧ E (a + i) = e := by simp [seg]
theorem seg_get {E : Nat → Ev} {a k i : Nat} (h : i < k) : (seg E a k)[i]? = some (E (a + i)) := by simp [seg, h]
theorem seg_drop (E : Nat → Ev) (a k j : Nat) (h : j ≤ k) : (seg E a k).drop j = seg E (a + j) (k - j) := by
  have : k = j + (k - j) := by omega
  rw [this, seg_append, List.drop_left' (by rw [seg_len])]
  simp

/-- two places changed over -/
def swp (E : Nat → Ev) (i j : Nat) : Nat → Ev := upd (upd E i (E j)) j (E i)
theorem swp_l (E : Nat → Ev) {i j : Nat} (h : i ≠ j) : swp E i j i = E j := by simp [swp, upd, h]
theorem swp_r (E : Nat → Ev) (i j : Nat) : swp E i j j = E i := by simp [swp, upd]
theorem swp_ne (E : Nat → Ev) {i j k : Nat} (h1 : k ≠ i) (h2 : k ≠ j) : swp E i j k = E k := by simp [swp, upd, h1, h2]
theorem swp_perm (E : Nat → Ev) {i j m : Nat} (hij : i < j) (hj : j < m) : (seg (swp E i j) 0 m).Perm (seg E 0 m) := by
  have key : ∀ F : Nat → Ev, seg F 0 m = seg F 0 i ++ F i :: (seg F (i + 1) (j - i - 1) ++ F j :: seg F (j + 1) (m - j - 1)) := fun F => by
    have e : m = i + ((j - i - 1) + (m - j - 1 + 1) + 1) := by omega
    conv => lhs; rw [e, seg_append, Nat.zero_add, seg_cons, seg_append, show i + 1 + (j - i - 1) = j by omega, seg_cons]
  rw [key, key E, swp_l _ (by omega), swp_r]
  have e1 : seg (swp E i j) 0 i = seg E 0 i := seg_congr fun k hk => swp_ne _ (by omega) (by omega)
  have e2 : seg (swp E i j) (i + 1) (j - i - 1) = seg E (i + 1) (j - i - 1) := seg_congr fun k hk => swp_ne _ (by omega) (by omega)
  have e3 : seg (swp E i j) (j + 1) (m - j - 1) = seg E (j + 1) (m - j - 1) := seg_congr fun k hk => swp_ne _ (by omega) (by omega)
  rw [e1, e2, e3]
  refine List.Perm.append_left _ ?_
  exact ((List.perm_middle.cons _).trans (List.Perm.swap _ _ _)).trans (List.perm_middle.symm.cons _)

/-- a heap of m events -/
def HeapP (T : Nat → Ev) (m : Nat) : Prop := ∀ k, 1 ≤ k → k < m → bef (T k) (T ((k - 1) / 2)) = false
/-- a heap but at place i -/
def HeapBut (T : Nat → Ev) (m i : Nat) : Prop :=
  (∀ k, 1 ≤ k → k < m → (k - 1) / 2 ≠ i → bef (T k) (T ((k - 1) / 2)) = false) ∧
  (∀ k, 1 ≤ k → k < m → (k - 1) / 2 = i → 1 ≤ i → bef (T k) (T ((i - 1) / 2)) = false)
/-- the least of place i and its children so far -/
def pk1 (T : Nat → Ev) (m i : Nat) : Nat := if 2 * i + 1 < m ∧ bef (T (2 * i + 1)) (T i) = true then 2 * i + 1 else i
def pk2 (T : Nat → Ev) (m i : Nat) : Nat := if 2 * i + 2 < m ∧ bef (T (2 * i + 2)) (T (pk1 T m i)) = true then 2 * i + 2 else pk1 T m i
def pk (T : Nat → Ev) (m i j : Nat) : Nat := if j = 0 then i else if j = 1 then pk1 T m i else pk2 T m i
theorem pk1_cases (T : Nat → Ev) (m i : Nat) : (pk1 T m i = i ∧ (2 * i + 1 < m → bef (T (2 * i + 1)) (T i) = false)) ∨ (pk1 T m i = 2 * i + 1 ∧ 2 * i + 1 < m ∧ bef (T (2 * i + 1)) (T i) = true) := by
  unfold pk1
  split
  · rename_i h; exact .inr ⟨rfl, h.1, h.2⟩
  · rename_i h; exact .inl ⟨rfl, fun h1 => by cases hb : bef (T (2 * i + 1)) (T i) with | false => rfl | true => exact absurd ⟨h1, hb⟩ h⟩
theorem pk2_cases (T : Nat → Ev) (m i : Nat) : (pk2 T m i = pk1 T m i ∧ (2 * i + 2 < m → bef (T (2 * i + 2)) (T (pk1 T m i)) = false)) ∨ (pk2 T m i = 2 * i + 2 ∧ 2 * i + 2 < m ∧ bef (T (2 * i + 2)) (T (pk1 T m i)) = true) := by
  unfold pk2
  split
  · rename_i h; exact .inr ⟨rfl, h.1, h.2⟩
  · rename_i h; exact .inl ⟨rfl, fun h1 => by cases hb : bef (T (2 * i + 2)) (T (pk1 T m i)) with | false => rfl | true => exact absurd ⟨h1, hb⟩ h⟩
/-- what the choice says: stay, and i is no later than its children; or go to a child, earlier than i and no later than the other child -/
theorem pk2_spec (T : Nat → Ev) (m i : Nat) :
    (pk2 T m i = i ∧ ∀ k, k < m → 1 ≤ k → (k - 1) / 2 = i → bef (T k) (T i) = false) ∨
    (i < pk2 T m i ∧ pk2 T m i < m ∧ (pk2 T m i - 1) / 2 = i ∧ bef (T (pk2 T m i)) (T i) = true ∧ ∀ k, k < m → 1 ≤ k → (k - 1) / 2 = i → bef (T k) (T (pk2 T m i)) = false) := by
  have hk : ∀ k, 1 ≤ k → (k - 1) / 2 = i → k = 2 * i + 1 ∨ k = 2 * i + 2 := fun k h1 h2 => by omega
  rcases pk1_cases T m i with ⟨e1, h1⟩ | ⟨e1, l1, h1⟩
  · rcases pk2_cases T m i with ⟨e2, h2⟩ | ⟨e2, l2, h2⟩
    · rw [e1] at e2 h2
      refine .inl ⟨e2, fun k hkm k1 kp => ?_⟩
      rcases hk k k1 kp with rfl | rfl
      · exact h1 hkm
      · exact h2 hkm
    · rw [e1] at h2
      rw [e2]
      refine .inr ⟨by omega, l2, by omega, h2, fun k hkm k1 kp => ?_⟩
      rcases hk k k1 kp with rfl | rfl
      · exact bef_asymm (bef_nbef h2 (h1 hkm))
      · exact bef_irrefl _
  · rcases pk2_cases T m i with ⟨e2, h2⟩ | ⟨e2, l2, h2⟩
    · rw [e1] at e2 h2
      rw [e2]
      refine .inr ⟨by omega, l1, by omega, h1, fun k hkm k1 kp => ?_⟩
      rcases hk k k1 kp with rfl | rfl
      · exact bef_irrefl _
      · exact h2 hkm
    · rw [e1] at h2
      rw [e2]
      refine .inr ⟨by omega, l2, by omega, bef_trans h2 h1, fun k hkm k1 kp => ?_⟩
      rcases hk k k1 kp with rfl | rfl
      · exact bef_asymm h2
      · exact bef_irrefl _
theorem heap_stay {T : Nat → Ev} {m i : Nat} (h : HeapBut T m i) (e : pk2 T m i = i) : HeapP T m := fun k h1 h2 => by
  rcases pk2_spec T m i with ⟨_, hc⟩ | ⟨hlt, _⟩
  · by_cases hp : (k - 1) / 2 = i
    · rw [hp]; exact hc k h2 h1 hp
    · exact h.1 k h1 h2 hp
  · omega
theorem heap_go {T : Nat → Ev} {m i : Nat} (h : HeapBut T m i) (e : pk2 T m i ≠ i) : i < pk2 T m i ∧ pk2 T m i < m ∧ HeapBut (swp T i (pk2 T m i)) m (pk2 T m i) := by
  rcases pk2_spec T m i with ⟨e', _⟩ | ⟨hlt, hm, hp, hb, hc⟩
  · exact absurd e' e
  · generalize pk2 T m i = f at *
    refine ⟨hlt, hm, fun k h1 h2 h3 => ?_, fun k h1 h2 h3 h4 => ?_⟩
    · by_cases ki : (k - 1) / 2 = i
      · rw [ki, swp_l _ (by omega)]
        by_cases kf : k = f
        · subst kf; rw [swp_r]; exact bef_asymm hb
        · rw [swp_ne _ (by omega) kf]; exact hc k h2 h1 ki
      · rw [swp_ne T (k := (k - 1) / 2) ki h3]
        by_cases ke : k = i
        · subst ke; rw [swp_l _ (by omega)]
          exact h.2 f (by omega) hm hp h1
        · rw [swp_ne T (k := k) ke (fun e => by subst e; exact ki hp)]
          exact h.1 k h1 h2 ki
    · rw [hp, swp_l _ (by omega), swp_ne T (k := k) (by omega) (by omega), ← h3]
      exact h.1 k h1 h2 (by omega)
/-- what pop lays at the root: the last one; the last place is cleared -/
def tk (T : Nat → Ev) (m : Nat) : Nat → Ev := upd (upd T 0 (T m)) m ev0
theorem tk_perm (T : Nat → Ev) (m : Nat) : (seg (tk T m) 0 m).Perm (seg T 1 m) := by
  cases m with
  | zero => exact List.Perm.refl _
  | succ m =>
    have e1 : seg (tk T (m + 1)) (0 + 1) m = seg T 1 m := seg_congr fun i hi => by simp only [tk, upd]; rw [if_neg (by omega), if_neg (by omega), Nat.zero_add]
    rw [seg_cons, e1, seg_succ]
    have e0 : tk T (m + 1) 0 = T (1 + m) := by simp [tk, upd, Nat.add_comm]
    rw [e0]
    exact List.perm_append_comm (l₁ := [_])
theorem tk_heap {T : Nat → Ev} {m : Nat} (h : HeapP T (m + 1)) : HeapBut (tk T m) m 0 := by
  have e : ∀ k, 1 ≤ k → k < m → tk T m k = T k := fun k h1 h2 => by simp only [tk, upd]; rw [if_neg (by omega), if_neg (by omega)]
  refine ⟨fun k h1 h2 h3 => ?_, fun k _ _ _ h4 => by omega⟩
  rw [e k h1 h2, e _ (by omega) (by omega)]
  exact h k h1 (by omega)
/-- the root of a heap is the first -/
theorem heap_root {T : Nat → Ev} {m : Nat} (h : HeapP T m) : ∀ k, k < m → bef (T k) (T 0) = false := by
  intro k
  induction k using Nat.strongRecOn with
  | ind k ih =>
    intro hk
    by_cases k0 : k = 0
    · subst k0; exact bef_irrefl _
    · exact nbef_trans (ih ((k - 1) / 2) (by omega) (by omega)) (h k (by omega) hk)
end Go.Proofs.Qxb6613083a
