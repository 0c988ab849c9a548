/-
  PLAIN: merging two sorted runs; passes of a bottom-up merge sort.
-/
import Derived.Test.Qxb6613083aP1
namespace Go.Proofs.Qxb6613083a

/-- k elements from a on stand in order -/
def Srt (F : Nat → Ev) (a k : Nat) : Prop := ∀ i, i + 1 < k → bef (F (a + (i + 1))) (F (a + i)) = false

/-- a merge under way -/
structure MI (A B : Nat → Ev) (lo mid hi i j k : Nat) : Prop where
  li : lo ≤ i
  im : i ≤ mid
  mj : mid ≤ j
  jh : j ≤ hi
  kk : k + mid = i + j
  perm : (seg B lo (k - lo)).Perm (seg A lo (i - lo) ++ seg A mid (j - mid))
  srt : Srt B lo (k - lo)
  last : lo < k → (i < mid → bef (A i) (B (k - 1)) = false) ∧ (j < hi → bef (A j) (B (k - 1)) = false)

theorem MI.start (A B : Nat → Ev) {lo mid hi : Nat} (h1 : lo ≤ mid) (h2 : mid ≤ hi) : MI A B lo mid hi lo mid lo :=
  ⟨Nat.le_refl _, h1, Nat.le_refl _, h2, by omega, by simp [seg_zero], fun i hi => by omega, fun h => by omega⟩

theorem Srt.push {B : Nat → Ev} {lo k : Nat} {e : Ev} (h : Srt B lo (k - lo)) (hk : lo ≤ k) (hl : lo < k → bef e (B (k - 1)) = false) : Srt (upd B k e) lo (k + 1 - lo) := fun x hx => by
  rw [upd_ne B k e (i := lo + x) (by omega)]
  by_cases hx2 : x + 1 < k - lo
  · rw [upd_ne B k e (by omega)]; exact h x hx2
  · have e1 : lo + (x + 1) = k := by omega
    have e2 : lo + x = k - 1 := by omega
    rw [e1, e2, upd_same]
    exact hl (by omega)
theorem seg_push (B : Nat → Ev) {lo k : Nat} (e : Ev) (hk : lo ≤ k) : seg (upd B k e) lo (k + 1 - lo) = seg B lo (k - lo) ++ [e] := by
  rw [show k + 1 - lo = (k - lo) + 1 by omega, seg_succ, show lo + (k - lo) = k by omega, upd_same]
  congr 1
  exact seg_congr fun i hi => upd_ne B k e (by omega)

theorem MI.stepJ {A B : Nat → Ev} {lo mid hi i j k : Nat} (h : MI A B lo mid hi i j k) (hj : j < hi) (hsA : j + 1 < hi → bef (A (j + 1)) (A j) = false) (hc : i < mid → bef (A i) (A j) = false) :
    MI A (upd B k (A j)) lo mid hi i (j + 1) (k + 1) := by
  obtain ⟨li, im, mj, jh, kk, perm, srt, last⟩ := h
  refine ⟨li, im, by omega, by omega, by omega, ?_, srt.push (by omega) (fun h => (last h).2 hj), fun _ => ?_⟩
  · rw [seg_push B (A j) (by omega : lo ≤ k), show j + 1 - mid = (j - mid) + 1 by omega, seg_succ, show mid + (j - mid) = j by omega, ← List.append_assoc]
    exact perm.append_right _
  · rw [show k + 1 - 1 = k by omega, upd_same]
    exact ⟨hc, hsA⟩
theorem MI.stepI {A B : Nat → Ev} {lo mid hi i j k : Nat} (h : MI A B lo mid hi i j k) (hi' : i < mid) (hsA : i + 1 < mid → bef (A (i + 1)) (A i) = false) (hc : j < hi → bef (A j) (A i) = false) :
    MI A (upd B k (A i)) lo mid hi (i + 1) j (k + 1) := by
  obtain ⟨li, im, mj, jh, kk, perm, srt, last⟩ := h
  refine ⟨by omega, by omega, mj, jh, by omega, ?_, srt.push (by omega) (fun h => (last h).1 hi'), fun _ => ?_⟩
  · rw [seg_push B (A i) (by omega : lo ≤ k), show i + 1 - lo = (i - lo) + 1 by omega, seg_succ, show lo + (i - lo) = i by omega]
    refine (perm.append_right _).trans ?_
    rw [List.append_assoc, List.append_assoc]
    exact List.Perm.append_left _ List.perm_append_comm
  · rw [show k + 1 - 1 = k by omega, upd_same]
    exact ⟨hsA, hc⟩
theorem MI.done {A B : Nat → Ev} {lo mid hi k : Nat} (h : MI A B lo mid hi mid hi k) : k = hi ∧ (seg B lo (hi - lo)).Perm (seg A lo (hi - lo)) ∧ Srt B lo (hi - lo) := by
  obtain ⟨li, im, mj, jh, kk, perm, srt, last⟩ := h
  obtain rfl : k = hi := by omega
  refine ⟨rfl, perm.trans ?_, srt⟩
  rw [show k - lo = (mid - lo) + (k - mid) by omega, seg_append, show lo + (mid - lo) = mid by omega]

/-- the first m runs of length w stand in order -/
def SBk (A : Nat → Ev) (w m n : Nat) : Prop := ∀ q, q < m → ∀ x, q * w ≤ x → x + 1 < q * w + w → x + 1 < n → bef (A (x + 1)) (A x) = false
def SB (A : Nat → Ev) (w n : Nat) : Prop := ∀ q, ∀ x, q * w ≤ x → x + 1 < q * w + w → x + 1 < n → bef (A (x + 1)) (A x) = false
theorem SB.one (A : Nat → Ev) (n : Nat) : SB A 1 n := fun q x h1 h2 => by omega
theorem SB.all {A : Nat → Ev} {w n : Nat} (h : SB A w n) (hw : n ≤ w) : Srt A 0 n := fun i hi => by
  rw [Nat.zero_add, Nat.zero_add]
  exact h 0 i (by omega) (by omega) hi
/-- one more run merged -/
theorem SBk.more {B B' : Nat → Ev} {w m n lo hi : Nat} (h : SBk B w m n) (hlo : lo = m * w) (hhi : n ≤ hi ∨ hi = lo + w) (hk : ∀ x, x < lo → B' x = B x) (hs : Srt B' lo (hi - lo)) : SBk B' w (m + 1) n := fun q hq x h1 h2 h3 => by
  by_cases e : q = m
  · subst e
    have := hs (x - lo) (by omega)
    rwa [show lo + (x - lo + 1) = x + 1 by omega, show lo + (x - lo) = x by omega] at this
  · have hq' : q * w + w ≤ m * w := by have := Nat.mul_le_mul_right w (show q + 1 ≤ m by omega); rwa [Nat.succ_mul] at this
    rw [hk (x + 1) (by omega), hk x (by omega)]
    exact h q (by omega) x h1 h2 h3
theorem SBk.all {B : Nat → Ev} {w m n : Nat} (h : SBk B w m n) (hn : n ≤ m * w) : SB B w n := fun q x h1 h2 h3 => by
  by_cases e : q < m
  · exact h q e x h1 h2 h3
  · have := Nat.mul_le_mul_right w (show m ≤ q by omega)
    omega
/-- the two runs to be merged -/
theorem SB.left {A : Nat → Ev} {w n m lo mid : Nat} (h : SB A w n) (hlo : lo = m * (2 * w)) (h1 : mid ≤ lo + w) (h2 : mid ≤ n) : ∀ x, lo ≤ x → x + 1 < mid → bef (A (x + 1)) (A x) = false := fun x hx hx2 => by
  have e : 2 * m * w = m * (2 * w) := by rw [Nat.mul_comm 2 m, Nat.mul_assoc]
  exact h (2 * m) x (by omega) (by omega) (by omega)
theorem SB.right {A : Nat → Ev} {w n m lo mid hi : Nat} (h : SB A w n) (hlo : lo = m * (2 * w)) (hm : mid = lo + w ∨ n ≤ mid) (h1 : hi ≤ lo + 2 * w) (h2 : hi ≤ n) : ∀ x, mid ≤ x → x + 1 < hi → bef (A (x + 1)) (A x) = false := fun x hx hx2 => by
  have e : (2 * m + 1) * w = m * (2 * w) + w := by rw [Nat.succ_mul, Nat.mul_comm 2 m, Nat.mul_assoc]
  exact h (2 * m + 1) x (by omega) (by omega) (by omega)
/-- the pieces put together -/
theorem perm_more {A B B' : Nat → Ev} {lo hi : Nat} (h : (seg B 0 lo).Perm (seg A 0 lo)) (hk : ∀ x, x < lo → B' x = B x) (hlh : lo ≤ hi) (hp : (seg B' lo (hi - lo)).Perm (seg A lo (hi - lo))) : (seg B' 0 hi).Perm (seg A 0 hi) := by
  have key : ∀ F : Nat → Ev, seg F 0 hi = seg F 0 lo ++ seg F lo (hi - lo) := fun F => by
    conv => lhs; rw [show hi = lo + (hi - lo) by omega, seg_append, Nat.zero_add]
  rw [key, key A, seg_congr (E := B') (F := B) (b := 0) (fun i hi => by rw [Nat.zero_add]; exact hk i (by omega))]
  exact h.append hp
end Go.Proofs.Qxb6613083a
