/-
  THE PLAIN FUNCTIONS of the law's own model of the ring.
-/
import Derived.Test.Qxb6613077aFmtPlain
namespace Go.Proofs.Qxb6613077aFmt
open Go.RowKit

/-- the points of s below k, in order -/
def rl (s : Int) : Nat → List Int
  | 0 => []
  | k + 1 => if hasB s k then rl s k ++ [(k : Int)] else rl s k
theorem rl_len (s : Int) : ∀ k, (rl s k).length ≤ k
  | 0 => by simp [rl]
  | k + 1 => by have := rl_len s k; simp only [rl]; split <;> simp <;> omega
theorem rl_mono (s : Int) {a b : Nat} (h : a ≤ b) : (rl s a).length ≤ (rl s b).length := by
  induction b with
  | zero => have : a = 0 := by omega
            subst this; exact Nat.le_refl _
  | succ b ih =>
    by_cases e : a = b + 1
    · subst e; exact Nat.le_refl _
    · have := ih (by omega); simp only [rl]; split <;> simp <;> omega
theorem rl_yes (s : Int) (k : Nat) (h : hasB s k = true) : rl s (k + 1) = rl s k ++ [(k : Int)] := by simp [rl, h]
theorem rl_no (s : Int) (k : Nat) (h : hasB s k = false) : rl s (k + 1) = rl s k := by simp [rl, h]
/-- the array 'ring' behind k rounds -/
def ringArr (s : Int) (k : Nat) : Array Value := ((rl s k ++ List.replicate (8 - (rl s k).length) 0).map (Value.int .i64)).toArray
theorem ringArr_zero (s : Int) : ringArr s 0 = #[.int .i64 0, .int .i64 0, .int .i64 0, .int .i64 0, .int .i64 0, .int .i64 0, .int .i64 0, .int .i64 0] := rfl
theorem ringArr_size (s : Int) (k : Nat) (h : k ≤ 8) : (ringArr s k).size = 8 := by
  have := rl_len s k
  simp [ringArr]; omega
theorem ringArr_get (s : Int) (k i : Nat) (h : k ≤ 8) (hi : i < 8) : (ringArr s k)[i]? = some (.int .i64 ((rl s k).getD i 0)) := by
  have := rl_len s k
  simp only [ringArr, List.getElem?_toArray, List.getElem?_map, List.getD_eq_getElem?_getD]
  by_cases h : i < (rl s k).length
  · rw [List.getElem?_append_left h, List.getElem?_eq_getElem h]; rfl
  · rw [List.getElem?_append_right (by omega), List.getElem?_replicate, if_pos (by omega), List.getElem?_eq_none (by omega)]; rfl
theorem ringArr_yes (s : Int) (k : Nat) (h : hasB s k = true) (hk : k < 8) : ringArr s (k + 1) = (ringArr s k).setIfInBounds (rl s k).length (.int .i64 k) := by
  have := rl_len s k
  simp only [ringArr, rl_yes s k h, List.length_append, List.length_cons, List.length_nil]
  apply Array.ext'
  simp only [Array.toList_setIfInBounds, List.map_append]
  rw [List.set_append_right _ _ (by simp)]
  obtain ⟨m, hm⟩ : ∃ m, 8 - (rl s k).length = m + 1 := ⟨7 - (rl s k).length, by omega⟩
  have e : 8 - ((rl s k).length + (0 + 1)) = m := by omega
  rw [hm, e]
  simp [List.replicate_succ]
theorem ringArr_no (s : Int) (k : Nat) (h : hasB s k = false) : ringArr s (k + 1) = ringArr s k := by
  simp only [ringArr, rl_no s k h]
/-- 'at' behind k rounds -/
def atF (s p : Int) (k : Nat) : Int := if p < k then ((rl s p.toNat).length : Int) else 0
/-- the candidates -/
def cnd (s p : Int) (k : Nat) : Int :=
  match k with
  | 0 => if hasB s ((p + 4) % 8) then (p + 4) % 8 else -1
  | 1 => (rl s 8).getD (((rl s p.toNat).length + 1) % (rl s 8).length) 0
  | _ => (rl s 8).getD (((rl s p.toNat).length + (rl s 8).length - 1) % (rl s 8).length) 0
/-- what is named, behind each round -/
def t0 (p c0 : Int) : Int := if c0 < 0 ∨ c0 = p then -1 else c0
def t1 (p c0 c1 : Int) : Int := if c1 < 0 ∨ c1 = p ∨ t0 p c0 = c1 then -1 else c1
def t2 (p c0 c1 c2 : Int) : Int := if c2 < 0 ∨ c2 = p ∨ t0 p c0 = c2 ∨ t1 p c0 c1 = c2 then -1 else c2
def mnF (s p : Int) (k : Nat) : Int :=
  match k with
  | 0 => t0 p (cnd s p 0)
  | 1 => t1 p (cnd s p 0) (cnd s p 1)
  | _ => t2 p (cnd s p 0) (cnd s p 1) (cnd s p 2)
/-- the array 'to' behind n rounds -/
def toArr (T0 T1 T2 : Int) : Nat → Array Value
  | 0 => #[.int .i64 (-1), .int .i64 (-1), .int .i64 (-1)]
  | 1 => #[.int .i64 T0, .int .i64 (-1), .int .i64 (-1)]
  | 2 => #[.int .i64 T0, .int .i64 T1, .int .i64 (-1)]
  | _ => #[.int .i64 T0, .int .i64 T1, .int .i64 T2]
end Go.Proofs.Qxb6613077aFmt
