/-
  FnNeighborMovesCommuteAndUndo outside its guards; the walk whole.
-/
import Derived.Test.Qxb6613077aFmtW8
namespace Go.Proofs.Qxb6613077aFmt
open Go.RowKit

set_option maxHeartbeats 400000 in
theorem moves_out1 (D a d l e m : Int) (w : World)  (h1 : D < 1) :
    Calls Tryf.prog 4 #[.int .i64 D, .int .i64 a, .int .i64 d, .int .i64 l, .int .i64 e, .int .i64 m] w fun e w' => e = .returned (.bool true) ∧ Below w.heap.size w w' := by
  go_enter Tryf.func4, Tryf.ntmps4
  go_wp2
  go_ret
  exact ⟨rfl, Below.refl _ _⟩
set_option maxHeartbeats 400000 in
theorem moves_out2 (D a d l e m : Int) (w : World) (h1 : ¬ D < 1) (h2 : 10 < D) :
    Calls Tryf.prog 4 #[.int .i64 D, .int .i64 a, .int .i64 d, .int .i64 l, .int .i64 e, .int .i64 m] w fun e w' => e = .returned (.bool true) ∧ Below w.heap.size w w' := by
  go_enter Tryf.func4, Tryf.ntmps4
  go_wp2
  go_ret
  exact ⟨rfl, Below.refl _ _⟩
set_option maxHeartbeats 400000 in
theorem moves_out3 (D a d l e m : Int) (w : World) (h1 : ¬ D < 1) (h2 : ¬ 10 < D) (h3 : d < 0) :
    Calls Tryf.prog 4 #[.int .i64 D, .int .i64 a, .int .i64 d, .int .i64 l, .int .i64 e, .int .i64 m] w fun e w' => e = .returned (.bool true) ∧ Below w.heap.size w w' := by
  go_enter Tryf.func4, Tryf.ntmps4
  go_wp2
  go_ret
  exact ⟨rfl, Below.refl _ _⟩
set_option maxHeartbeats 400000 in
theorem moves_out4 (D a d l e m : Int) (w : World) (h1 : ¬ D < 1) (h2 : ¬ 10 < D) (h3 : ¬ d < 0) (h4 : D ≤ d) :
    Calls Tryf.prog 4 #[.int .i64 D, .int .i64 a, .int .i64 d, .int .i64 l, .int .i64 e, .int .i64 m] w fun e w' => e = .returned (.bool true) ∧ Below w.heap.size w w' := by
  go_enter Tryf.func4, Tryf.ntmps4
  go_wp2
  go_ret
  exact ⟨rfl, Below.refl _ _⟩
set_option maxHeartbeats 400000 in
theorem moves_out5 (D a d l e m : Int) (w : World) (h1 : ¬ D < 1) (h2 : ¬ 10 < D) (h3 : ¬ d < 0) (h4 : ¬ D ≤ d) (h5 : e < 0) :
    Calls Tryf.prog 4 #[.int .i64 D, .int .i64 a, .int .i64 d, .int .i64 l, .int .i64 e, .int .i64 m] w fun e w' => e = .returned (.bool true) ∧ Below w.heap.size w w' := by
  go_enter Tryf.func4, Tryf.ntmps4
  go_wp2
  go_ret
  exact ⟨rfl, Below.refl _ _⟩
set_option maxHeartbeats 400000 in
theorem moves_out6 (D a d l e m : Int) (w : World) (h1 : ¬ D < 1) (h2 : ¬ 10 < D) (h3 : ¬ d < 0) (h4 : ¬ D ≤ d) (h5 : ¬ e < 0) (h6 : D ≤ e) :
    Calls Tryf.prog 4 #[.int .i64 D, .int .i64 a, .int .i64 d, .int .i64 l, .int .i64 e, .int .i64 m] w fun e w' => e = .returned (.bool true) ∧ Below w.heap.size w w' := by
  go_enter Tryf.func4, Tryf.ntmps4
  go_wp2
  go_ret
  exact ⟨rfl, Below.refl _ _⟩
set_option maxHeartbeats 400000 in
theorem moves_out7 (D a d l e m : Int) (w : World) (h1 : ¬ D < 1) (h2 : ¬ 10 < D) (h3 : ¬ d < 0) (h4 : ¬ D ≤ d) (h5 : ¬ e < 0) (h6 : ¬ D ≤ e) (h7 : a < 0) :
    Calls Tryf.prog 4 #[.int .i64 D, .int .i64 a, .int .i64 d, .int .i64 l, .int .i64 e, .int .i64 m] w fun e w' => e = .returned (.bool true) ∧ Below w.heap.size w w' := by
  go_enter Tryf.func4, Tryf.ntmps4
  go_wp2
  go_ret
  exact ⟨rfl, Below.refl _ _⟩
set_option maxHeartbeats 400000 in
theorem moves_out8 (D a d l e m : Int) (w : World) (h1 : ¬ D < 1) (h2 : ¬ 10 < D) (h3 : ¬ d < 0) (h4 : ¬ D ≤ d) (h5 : ¬ e < 0) (h6 : ¬ D ≤ e) (h7 : ¬ a < 0) (h8 : p8 D ≤ a) :
    Calls Tryf.prog 4 #[.int .i64 D, .int .i64 a, .int .i64 d, .int .i64 l, .int .i64 e, .int .i64 m] w fun e w' => e = .returned (.bool true) ∧ Below w.heap.size w w' := by
  go_enter Tryf.func4, Tryf.ntmps4
  go_wp2_with (go_at_call 6; refine (pow8_any D _ (by omega) (by omega)).mono ?_; rintro e w2 ⟨rfl, hw2⟩; have hw2' := hw2.symm; subst hw2')
  go_ret
  exact ⟨rfl, Below.refl _ _⟩
set_option maxHeartbeats 400000 in
theorem moves_out9 (D a d l e m : Int) (w : World) (h1 : ¬ D < 1) (h2 : ¬ 10 < D) (h3 : ¬ d < 0) (h4 : ¬ D ≤ d) (h5 : ¬ e < 0) (h6 : ¬ D ≤ e) (h7 : ¬ a < 0) (h8 : ¬ p8 D ≤ a) (h9 : l < 0) :
    Calls Tryf.prog 4 #[.int .i64 D, .int .i64 a, .int .i64 d, .int .i64 l, .int .i64 e, .int .i64 m] w fun e w' => e = .returned (.bool true) ∧ Below w.heap.size w w' := by
  go_enter Tryf.func4, Tryf.ntmps4
  go_wp2_with (go_at_call 6; refine (pow8_any D _ (by omega) (by omega)).mono ?_; rintro e w2 ⟨rfl, hw2⟩; have hw2' := hw2.symm; subst hw2')
  go_ret
  exact ⟨rfl, Below.refl _ _⟩
set_option maxHeartbeats 400000 in
theorem moves_out10 (D a d l e m : Int) (w : World) (h1 : ¬ D < 1) (h2 : ¬ 10 < D) (h3 : ¬ d < 0) (h4 : ¬ D ≤ d) (h5 : ¬ e < 0) (h6 : ¬ D ≤ e) (h7 : ¬ a < 0) (h8 : ¬ p8 D ≤ a) (h9 : ¬ l < 0) (h10 : 2 < l) :
    Calls Tryf.prog 4 #[.int .i64 D, .int .i64 a, .int .i64 d, .int .i64 l, .int .i64 e, .int .i64 m] w fun e w' => e = .returned (.bool true) ∧ Below w.heap.size w w' := by
  go_enter Tryf.func4, Tryf.ntmps4
  go_wp2_with (go_at_call 6; refine (pow8_any D _ (by omega) (by omega)).mono ?_; rintro e w2 ⟨rfl, hw2⟩; have hw2' := hw2.symm; subst hw2')
  go_ret
  exact ⟨rfl, Below.refl _ _⟩
set_option maxHeartbeats 400000 in
theorem moves_out11 (D a d l e m : Int) (w : World) (h1 : ¬ D < 1) (h2 : ¬ 10 < D) (h3 : ¬ d < 0) (h4 : ¬ D ≤ d) (h5 : ¬ e < 0) (h6 : ¬ D ≤ e) (h7 : ¬ a < 0) (h8 : ¬ p8 D ≤ a) (h9 : ¬ l < 0) (h10 : ¬ 2 < l) (h11 : m < 0) :
    Calls Tryf.prog 4 #[.int .i64 D, .int .i64 a, .int .i64 d, .int .i64 l, .int .i64 e, .int .i64 m] w fun e w' => e = .returned (.bool true) ∧ Below w.heap.size w w' := by
  go_enter Tryf.func4, Tryf.ntmps4
  go_wp2_with (go_at_call 6; refine (pow8_any D _ (by omega) (by omega)).mono ?_; rintro e w2 ⟨rfl, hw2⟩; have hw2' := hw2.symm; subst hw2')
  go_ret
  exact ⟨rfl, Below.refl _ _⟩
set_option maxHeartbeats 400000 in
theorem moves_out12 (D a d l e m : Int) (w : World) (h1 : ¬ D < 1) (h2 : ¬ 10 < D) (h3 : ¬ d < 0) (h4 : ¬ D ≤ d) (h5 : ¬ e < 0) (h6 : ¬ D ≤ e) (h7 : ¬ a < 0) (h8 : ¬ p8 D ≤ a) (h9 : ¬ l < 0) (h10 : ¬ 2 < l) (h11 : ¬ m < 0) (h12 : 2 < m) :
    Calls Tryf.prog 4 #[.int .i64 D, .int .i64 a, .int .i64 d, .int .i64 l, .int .i64 e, .int .i64 m] w fun e w' => e = .returned (.bool true) ∧ Below w.heap.size w w' := by
  go_enter Tryf.func4, Tryf.ntmps4
  go_wp2_with (go_at_call 6; refine (pow8_any D _ (by omega) (by omega)).mono ?_; rintro e w2 ⟨rfl, hw2⟩; have hw2' := hw2.symm; subst hw2')
  go_ret
  exact ⟨rfl, Below.refl _ _⟩

/-- THE WALK, WHOLE. -/
theorem moves_any (D a d l e m : Int) (w : World) :
    Calls Tryf.prog 4 #[.int .i64 D, .int .i64 a, .int .i64 d, .int .i64 l, .int .i64 e, .int .i64 m] w fun e w' => e = .returned (.bool true) ∧ Below w.heap.size w w' := by
  by_cases h1 : D < 1
  · exact moves_out1 D a d l e m w h1
  by_cases h2 : 10 < D
  · exact moves_out2 D a d l e m w h1 h2
  by_cases h3 : d < 0
  · exact moves_out3 D a d l e m w h1 h2 h3
  by_cases h4 : D ≤ d
  · exact moves_out4 D a d l e m w h1 h2 h3 h4
  by_cases h5 : e < 0
  · exact moves_out5 D a d l e m w h1 h2 h3 h4 h5
  by_cases h6 : D ≤ e
  · exact moves_out6 D a d l e m w h1 h2 h3 h4 h5 h6
  by_cases h7 : a < 0
  · exact moves_out7 D a d l e m w h1 h2 h3 h4 h5 h6 h7
  by_cases h8 : p8 D ≤ a
  · exact moves_out8 D a d l e m w h1 h2 h3 h4 h5 h6 h7 h8
  by_cases h9 : l < 0
  · exact moves_out9 D a d l e m w h1 h2 h3 h4 h5 h6 h7 h8 h9
  by_cases h10 : 2 < l
  · exact moves_out10 D a d l e m w h1 h2 h3 h4 h5 h6 h7 h8 h9 h10
  by_cases h11 : m < 0
  · exact moves_out11 D a d l e m w h1 h2 h3 h4 h5 h6 h7 h8 h9 h10 h11
  by_cases h12 : 2 < m
  · exact moves_out12 D a d l e m w h1 h2 h3 h4 h5 h6 h7 h8 h9 h10 h11 h12
  have hp := p8_bd9 d (by omega) (by omega)
  refine moves_in D a d l e m _ _ _ w (by omega) (by omega) (by omega) (by omega) (by omega) (by omega) (by omega) (by omega) (by omega) (by omega) (by omega) (by omega) rfl rfl rfl ?_ ?_
  · exact (mv_comm a d e (stp l) (stp m) (by omega) (by omega) (by omega) (by omega)).symm
  · show mv (mv a (p8 d) (stp l)) (p8 d) (stp (rev l)) = a
    rw [mv_mv _ _ _ _ (by omega)]
    exact mv_zero a (p8 d) _ (stp_rev l (by omega) (by omega))
end Go.Proofs.Qxb6613077aFmt
