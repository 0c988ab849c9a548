/-
  WALKS of the complete structure: zzPow8, zzMoved, zzStep, zzReverse, ZZnewComplete, Peers, digit, withDigit, Neighbor.
-/
import Derived.Test.Qxb6613077aFmtW3
import Derived.Test.Qxb6613077aFmtPlain4
import Derived.Deep.QuietTactic
import Derived.BigQuiet
namespace Go.Proofs.Qxb6613077aFmt
open Go.RowKit

theorem p8_nat (k : Nat) : p8 k = 8 ^ k := by simp [p8]
theorem p8_succ (k : Nat) : p8 ((k + 1 : Nat) : Int) = p8 k * 8 := by rw [p8_nat, p8_nat, Int.pow_succ]

set_option maxHeartbeats 400000 in
theorem pow8_any (n : Int) (w : World) (h0 : 0 ≤ n) (h1 : n ≤ 10) :
    Calls Tryf.prog 6 #[.int .i64 n] w fun e w' => e = .returned (.int .i64 (p8 n)) ∧ w' = w := by
  obtain ⟨N, rfl⟩ := Int.eq_ofNat_of_zero_le h0
  go_enter Tryf.func6, Tryf.ntmps6
  go_wp2
  go_loop [3, 4] (fun x i => ∃ k : Nat, k ≤ N ∧ i = .int .i64 k ∧ x = .int .i64 (p8 k)) (fun _ i => N - (intOf i).toNat)
  case atStart => exact ⟨0, by omega, rfl, rfl⟩
  case round =>
    obtain ⟨k, hk, rfl, rfl⟩ := hrel
    by_cases hlt : k < N
    · have hb := p8_bd9 k (by omega) (by omega)
      have HS : Hid (p8 ((k + 1 : Nat) : Int) = p8 k * 8) := p8_succ k
      go_wp2
      go_round
      case rel => exact ⟨k + 1, by omega, by go_num, by rw [HS.out]⟩
      case measure => simp [intOf]; omega
    · obtain rfl : k = N := by omega
      go_wp2
      go_ret
      exact ⟨rfl, rfl⟩

set_option maxHeartbeats 400000 in
theorem moved_any (a d k : Int) (w : World) (a0 : 0 ≤ a) (a1 : a < 1073741824) (h0 : 0 ≤ d) (h1 : d ≤ 9) (k0 : 0 ≤ k) (k8 : k ≤ 8) :
    Calls Tryf.prog 9 #[.int .i64 a, .int .i64 (p8 d), .int .i64 k] w fun e w' => e = .returned (.int .i64 (mv a (p8 d) k)) ∧ w' = w := by
  have hp := p8_bd9 d h0 h1
  have HE : Hid (wrap64 (wrap64 (a - wrap64 ((a / p8 d).tmod 8 * p8 d)) + wrap64 ((wrap64 ((a / p8 d).tmod 8 + k)).tmod 8 * p8 d)) = mv a (p8 d) k) := mv_raw a d k a0 a1 h0 h1 k0 k8
  generalize p8 d = W at *
  go_enter Tryf.func9, Tryf.ntmps9
  go_wp2
  go_ret
  exact ⟨ret_int HE.out, rfl⟩

set_option maxHeartbeats 400000 in
theorem step_any (l : Int) (w : World) (l0 : 0 ≤ l) (l2 : l ≤ 2) :
    Calls Tryf.prog 10 #[.int .i64 l] w fun e w' => e = .returned (.int .i64 (stp l)) ∧ w' = w := by
  have hl : l = 0 ∨ l = 1 ∨ l = 2 := by omega
  rcases hl with rfl | rfl | rfl
  all_goals
    go_enter Tryf.func10, Tryf.ntmps10
    go_wp2
    go_ret
    exact ⟨rfl, rfl⟩
/-- the link that undoes a link -/
def rev (l : Int) : Int := if l = 1 then 2 else if l = 2 then 1 else 0
set_option maxHeartbeats 400000 in
theorem reverse_any (l : Int) (w : World) (l0 : 0 ≤ l) (l2 : l ≤ 2) :
    Calls Tryf.prog 11 #[.int .i64 l] w fun e w' => e = .returned (.int .i64 (rev l)) ∧ w' = w := by
  have hl : l = 0 ∨ l = 1 ∨ l = 2 := by omega
  rcases hl with rfl | rfl | rfl
  all_goals
    go_enter Tryf.func11, Tryf.ntmps11
    go_wp2
    go_ret
    exact ⟨rfl, rfl⟩

theorem digit_any (a d : Int) (w : World) (a0 : 0 ≤ a) (a1 : a < 1073741824) (h0 : 0 ≤ d) (h1 : d ≤ 9) :
    Calls Tryf.prog 19 #[.int .i64 a, .int .i64 d] w fun e w' => e = .returned (.int .i64 (a / p8 d % 8)) ∧ w' = w := by
  go_enter Tryf.func19, Tryf.ntmps19
  go_wp2
  go_ret
  exact ⟨ret_int (digit_eq a d a0 a1 h0 h1), rfl⟩

set_option maxHeartbeats 400000 in
theorem withDigit_any (a d m : Int) (w : World) (a0 : 0 ≤ a) (a1 : a < 1073741824) (h0 : 0 ≤ d) (h1 : d ≤ 9) (m0 : 0 ≤ m) (m7 : m ≤ 7) :
    Calls Tryf.prog 20 #[.int .i64 a, .int .i64 d, .int .i64 m] w fun e w' => e = .returned (.int .i64 (a - a / p8 d % 8 * p8 d + m * p8 d)) ∧ ∃ n, w' = w.drewN n := by
  go_enter Tryf.func20, Tryf.ntmps20
  go_wp2
  go_quiet (fail)
  go_wp2
  go_ret
  exact ⟨ret_int (wd_eq a d m a0 a1 h0 h1 m0 m7), _, rfl⟩

theorem peers_any (D : Int) (w : World) (h0 : 1 ≤ D) (h1 : D ≤ 10) :
    Calls Tryf.prog 16 #[.agg #[.int .i64 D]] w fun e w' => e = .returned (.int .i64 (p8 D)) ∧ w' = w.alloc (.cells #[.int .i64 D] 24) := by
  go_enter Tryf.func16, Tryf.ntmps16
  go_wp2
  go_ret
  refine ⟨ret_int ?_, rfl⟩
  have := p8_bd D (by omega) h1
  rw [pow_p8 D (by omega) h1, wrap_small _ (by omega) (by omega)]

theorem complete_any (D : Int) (w : World) :
    Calls Tryf.prog 7 #[.int .i64 D] w fun e w' => e = .returned (.agg #[.int .i64 D]) ∧ Below w.heap.size w w' := by
  go_enter Tryf.func7, Tryf.ntmps7
  go_wp2
  exact bodyPost_ret (v := .agg #[.int .i64 D]) (by simp [results, Tryf.results7, go_sem]) rfl ⟨rfl, (Below.refl _ _).alloc (Nat.le_refl _) _⟩

set_option maxHeartbeats 400000 in
theorem neighborC_any (D a d l : Int) (w : World) (h0 : 1 ≤ D) (h1 : D ≤ 10) (a0 : 0 ≤ a) (aD : a < p8 D) (d0 : 0 ≤ d) (dD : d < D) (l0 : 0 ≤ l) (l2 : l ≤ 2) :
    Calls Tryf.prog 8 #[.agg #[.int .i64 D], .int .i64 a, .int .i64 d, .int .i64 l] w fun e w' => e = .returned (.int .i64 (mv a (p8 d) (stp l))) ∧ Below w.heap.size w w' := by
  have hp := p8_bd D (by omega) h1
  have a1 : a < 1073741824 := by omega
  have HN := nb_full (a / p8 d % 8) l (by omega) (by omega) l0 l2
  have ha : decide (a < 0) = false := decide_eq_false (by omega)
  have hd : decide (d < 0) = false := decide_eq_false (by omega)
  have hn : 0 ≤ a / p8 d % 8 ∧ a / p8 d % 8 ≤ 7 := by omega
  obtain ⟨n0, n7⟩ := hn
  have HM : Hid (a - a / p8 d % 8 * p8 d + (a / p8 d + stp l) % 8 * p8 d = mv a (p8 d) (stp l)) := by rw [Hid, mv, Int.emod_add_emod]
  go_enter Tryf.func8, Tryf.ntmps8
  go_wp2_with fail
  refine (peers_any D _ h0 h1).mono ?_
  rintro e w1 ⟨rfl, rfl⟩
  go_wp2_with (first | (go_at_call 19; refine (digit_any a d _ a0 a1 d0 (by omega)).mono ?_; rintro e w2 ⟨rfl, hw2⟩; subst hw2) | (go_at_call 18; refine (neighbor_any 255 _ l _ n0 n7 l0 l2).mono ?_; rintro e w3 ⟨rfl, hb3⟩))
  refine (withDigit_any a d _ _ a0 a1 d0 (by omega) (by omega) (by omega)).mono ?_
  rintro e w4 ⟨rfl, n4, hw4⟩
  subst hw4
  go_wp2
  go_ret
  refine ⟨ret_int HM.out, ?_⟩
  have b1 : Below w.heap.size w ((w.alloc (.cells #[.int .i64 D] 24)).alloc (.cells #[.int .i64 D] 24)) := ((Below.refl _ _).alloc (Nat.le_refl _) _).alloc (by simp) _
  exact below_drewN (b1.trans (hb3.mono b1.size)) _
end Go.Proofs.Qxb6613077aFmt
