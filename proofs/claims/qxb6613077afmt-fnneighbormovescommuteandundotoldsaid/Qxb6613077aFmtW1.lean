/-
  WALKS of the ring: has, next.
-/
import Derived.Test.Qxb6613077aFmtProg
import Derived.Test.Qxb6613077aFmtPlain
import Derived.WalkSpells
import Derived.WalkLawsBesides
import Derived.Deep.LoopGhost
import Derived.Outline
namespace Go.Proofs.Qxb6613077aFmt
open Go.RowKit

theorem ret_int {k : IntKind} {a b : Int} (h : a = b) : Ending.returned (.int k a) = .returned (.int k b) := by rw [h]

theorem has_any (s p : Int) (w : World) (h0 : 0 ≤ p) (h1 : p ≤ 7) :
    Calls Tryf.prog 25 #[.int .u8 s, .int .i64 p] w fun e w' => e = .returned (.bool (hasB s p)) ∧ w' = w := by
  go_enter Tryf.func25, Tryf.ntmps25
  go_wp2
  go_ret
  exact ⟨rfl, rfl⟩

theorem nextAt_here (s p step : Int) (n : Nat) (h : 1 ≤ n) : nextAt s p step n p = p := by
  obtain ⟨m, rfl⟩ : ∃ m, n = m + 1 := ⟨n - 1, by omega⟩
  simp [nextAt]
theorem nextAt_hit (s p step q : Int) (n : Nat) (h : 1 ≤ n) (hq : q ≠ p) (hb : hasB s q = true) : nextAt s p step n q = q := by
  obtain ⟨m, rfl⟩ : ∃ m, n = m + 1 := ⟨n - 1, by omega⟩
  simp [nextAt, hq, hb]
theorem nextAt_miss (s p step q : Int) (n : Nat) (hq : q ≠ p) (hb : hasB s q = false) : nextAt s p step (n + 1) q = nextAt s p step n ((q + step) % 8) := by
  simp [nextAt, hq, hb]

set_option maxHeartbeats 400000 in
theorem next_any (s p step : Int) (w : World) (h0 : 0 ≤ p) (h1 : p ≤ 7) (hs : step = 1 ∨ step = 7) :
    Calls Tryf.prog 24 #[.int .u8 s, .int .i64 p, .int .i64 step] w fun e w' => e = .returned (.int .i64 (nextF s p step)) ∧ w' = w := by
  have hs0 : 1 ≤ step := by omega
  have hs1 : step ≤ 7 := by omega
  go_enter Tryf.func24, Tryf.ntmps24
  go_wp2
  go_loopg [7] 8 (fun n q wr => ∃ x : Int, 1 ≤ n ∧ n ≤ 8 ∧ q = .int .i64 x ∧ 0 ≤ x ∧ x ≤ 7 ∧ nextAt s p step n x = nextF s p step ∧ x = (p + (9 - n) * step) % 8 ∧ wr = w)
  case atStart => exact ⟨_, by omega, by omega, rfl, by omega, by omega, rfl, by simp, rfl⟩
  case round =>
    obtain ⟨x, hn1, hn8, rfl, hx0, hx7, hA, hB, rfl⟩ := hrel
    have A : Hid (nextAt s p step gk x = nextF s p step) := hA
    have B : Hid (x = (p + (9 - gk) * step) % 8) := hB
    clear hA hB
    by_cases hxp : x = p
    · subst hxp
      go_wp2
      go_ret
      exact ⟨ret_int (by rw [← A.out, nextAt_here _ _ _ _ hn1]), rfl⟩
    · have hne : (x != p) = true := by rw [bne_iff_ne]; exact hxp
      have hg2 : 2 ≤ gk := by
        by_cases hg : gk = 1
        · subst hg
          have b := B.out
          rcases hs with h | h <;> (rw [h] at b; omega)
        · omega
      cases hb : hasB s x with
      | true =>
        have A2 : Hid (nextF s p step = x) := by have := A.out; rw [nextAt_hit _ _ _ _ _ hn1 hxp hb] at this; exact this.symm
        clear A
        go_wp2_with (go_at_call 25; refine (has_any s x _ hx0 hx7).mono ?_; rintro e w' ⟨rfl, rfl⟩)
        go_ret
        exact ⟨ret_int A2.out.symm, rfl⟩
      | false =>
        obtain ⟨m, rfl⟩ : ∃ m, gk = m + 1 := ⟨gk - 1, by omega⟩
        have A2 : Hid (nextAt s p step m ((x + step) % 8) = nextF s p step) := by have := A.out; rw [nextAt_miss _ _ _ _ _ hxp hb] at this; exact this
        clear A
        go_wp2_with (go_at_call 25; refine (has_any s x _ hx0 hx7).mono ?_; rintro e w' ⟨rfl, rfl⟩)
        go_roundg m
        case measure => omega
        case rel =>
          refine ⟨_, by omega, by omega, rfl, by omega, by omega, A2.out, ?_, rfl⟩
          have b := B.out
          rcases hs with h | h <;> (rw [h] at b ⊢; omega)
end Go.Proofs.Qxb6613077aFmt
