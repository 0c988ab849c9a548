/-
  THE WALK of FnNeighborMovesCommuteAndUndo.
-/
import Derived.Test.Qxb6613077aFmtW6
import Derived.Deep.DeepCutAuto
namespace Go.Proofs.Qxb6613077aFmt
open Go.RowKit

theorem stp_bd (l : Int) : 0 ≤ stp l ∧ stp l ≤ 8 := by unfold stp; split <;> (try split) <;> omega
theorem rev_bd (l : Int) : 0 ≤ rev l ∧ rev l ≤ 2 := by unfold rev; split <;> (try split) <;> omega
theorem stp_rev (l : Int) (l0 : 0 ≤ l) (l2 : l ≤ 2) : (stp l + stp (rev l)) % 8 = 0 := by
  have hl : l = 0 ∨ l = 1 ∨ l = 2 := by omega
  rcases hl with rfl | rfl | rfl <;> decide

set_option maxRecDepth 100000 in
set_option maxHeartbeats 1000000 in
theorem moves_in (D a d l e m x y z : Int) (w : World) (h0 : 1 ≤ D) (h1 : D ≤ 10) (a0 : 0 ≤ a) (aD : a < p8 D) (d0 : 0 ≤ d) (dD : d < D) (e0 : 0 ≤ e) (eD : e < D) (l0 : 0 ≤ l) (l2 : l ≤ 2) (m0 : 0 ≤ m) (m2 : m ≤ 2)
    (HX : Hid (mv a (p8 d) (stp l) = x)) (HY : Hid (mv x (p8 e) (stp m) = y)) (HZ : Hid (mv a (p8 e) (stp m) = z)) (HC : Hid (mv z (p8 d) (stp l) = y)) (HR : Hid (mv x (p8 d) (stp (rev l)) = a)) :
    Calls Tryf.prog 4 #[.int .i64 D, .int .i64 a, .int .i64 d, .int .i64 l, .int .i64 e, .int .i64 m] w fun e w' => e = .returned (.bool true) ∧ Below w.heap.size w w' := by
  have hp := p8_bd D (by omega) h1
  have a1 : a < 1073741824 := by omega
  obtain ⟨x0, xD⟩ : 0 ≤ x ∧ x < p8 D := by rw [← HX.out]; exact mv_bd a d D _ a0 d0 dD h1 aD
  obtain ⟨z0, zD⟩ : 0 ≤ z ∧ z < p8 D := by rw [← HZ.out]; exact mv_bd a e D _ a0 e0 eD h1 aD
  obtain ⟨sl0, sl8⟩ := stp_bd l
  obtain ⟨sm0, sm8⟩ := stp_bd m
  obtain ⟨r0, r2⟩ := rev_bd l
  go_enter Tryf.func4, Tryf.ntmps4
  go_wp2_with (first | (go_at_call_of 6 (Value.int IntKind.i64 D); refine (pow8_any D _ (by omega) (by omega)).mono ?_; rintro e w2 ⟨rfl, hw2⟩; have hw2' := hw2.symm; subst hw2') | fail)
  refine (pow8_any d _ d0 (by omega)).mono ?_
  rintro e w2 ⟨rfl, hw2⟩
  have hw2' := hw2.symm
  subst hw2'
  go_wp2_with fail
  refine (pow8_any e _ e0 (by omega)).mono ?_
  rintro e w2 ⟨rfl, hw2⟩
  have hw2' := hw2.symm
  subst hw2'
  go_wp2_with fail
  refine (complete_any D _).mono ?_
  rintro e w3 ⟨rfl, hb3⟩
  go_wp2_with fail
  have hB : w.heap.size ≤ w3.heap.size := hb3.size
  have hc3 : (w3.alloc (Obj.cells #[Value.int IntKind.i64 D] 24)).cell? ⟨w3.heap.size, 0, none⟩ = some (.int .i64 D) := by simp
  have hbel : Below w.heap.size w (w3.alloc (Obj.cells #[Value.int IntKind.i64 D] 24)) := hb3.alloc hB _
  have hs3 : w3.heap.size < (w3.alloc (Obj.cells #[Value.int IntKind.i64 D] 24)).heap.size := by simp
  generalize w3.alloc (Obj.cells #[Value.int IntKind.i64 D] 24) = W3 at *
  generalize w3.heap.size = B at *
  clear hb3 w3
  refine (step_any l _ l0 l2).mono ?_
  rintro e w4 ⟨rfl, hw4⟩
  have hw4' := hw4.symm
  subst hw4'
  go_wp2_with fail
  refine (moved_any a d _ _ a0 a1 d0 (by omega) sl0 sl8).mono ?_
  rintro e w4 ⟨rfl, hw4⟩
  have hw4' := hw4.symm
  subst hw4'
  rw [HX.out]
  go_wp2_with fail
  refine (step_any m _ m0 m2).mono ?_
  rintro e w4 ⟨rfl, hw4⟩
  have hw4' := hw4.symm
  subst hw4'
  go_wp2_with fail
  refine (moved_any x e _ _ x0 (by omega) e0 (by omega) sm0 sm8).mono ?_
  rintro e w4 ⟨rfl, hw4⟩
  have hw4' := hw4.symm
  subst hw4'
  rw [HY.out]
  go_wp2_with fail
  refine (neighborC_any D a d l _ h0 h1 a0 aD d0 dD l0 l2).mono ?_
  rintro e w4 ⟨rfl, hb4⟩
  rw [HX.out]
  have hc4 : w4.cell? ⟨B, 0, none⟩ = some (.int .i64 D) := (hb4.cell (p := ⟨B, 0, none⟩) hs3).trans hc3
  have hs4 : B < w4.heap.size := Nat.lt_of_lt_of_le hs3 hb4.size
  have hbb4 : Below w.heap.size w w4 := hbel.trans (hb4.mono hbel.size)
  clear hb4 hc3 hs3 hbel
  go_wp2_with fail
  refine (neighborC_any D x e m _ h0 h1 x0 xD e0 eD m0 m2).mono ?_
  rintro e w5 ⟨rfl, hb5⟩
  rw [HY.out]
  have hc5 : w5.cell? ⟨B, 0, none⟩ = some (.int .i64 D) := (hb5.cell (p := ⟨B, 0, none⟩) hs4).trans hc4
  have hs5 : B < w5.heap.size := Nat.lt_of_lt_of_le hs4 hb5.size
  have hbb5 : Below w.heap.size w w5 := hbb4.trans (hb5.mono hbb4.size)
  clear hb5 hc4 hs4 hbb4
  go_upto_region 18 with fail
  go_cut [22] (fun b wx => b = .int .i64 y ∧ wx.cell? ⟨B, 0, none⟩ = some (.int .i64 D) ∧ Below w.heap.size w wx ∧ B < wx.heap.size)
  case first =>
    go_region_with (first | (go_at_call_of 8 (Value.int IntKind.i64 z); refine (neighborC_any D z d l _ h0 h1 z0 zD d0 dD l0 l2).mono ?_; rintro e w7 ⟨rfl, hb7⟩; rw [HC.out]) | (go_at_call_of 8 (Value.int IntKind.i64 a); refine (neighborC_any D a e m _ h0 h1 a0 aD e0 eD m0 m2).mono ?_; rintro e w6 ⟨rfl, hb6⟩; rw [HZ.out]; have hc6 : w6.cell? ⟨B, 0, none⟩ = some (.int .i64 D) := (hb6.cell (p := ⟨B, 0, none⟩) hs5).trans hc5))
    all_goals
      go_wp2_with fail
      go_meet
      have hs6 : B < w6.heap.size := Nat.lt_of_lt_of_le hs5 hb6.size
      have hb6' : Below w.heap.size w w6 := hbb5.trans (Below.trans ((Below.refl _ _).drew) (hb6.mono hbb5.size))
      exact ⟨rfl, (hb7.cell (p := ⟨B, 0, none⟩) hs6).trans hc6, hb6'.trans (hb7.mono hb6'.size), Nat.lt_of_lt_of_le hs6 hb7.size⟩
  case rest =>
    obtain ⟨rfl, hc6, hb6, hs6⟩ := hcut
    clear hc5 hs5 hbb5
    go_upto_region 19 with fail
    go_cut [23] (fun b wx => b = .int .i64 a ∧ Below w.heap.size w wx)
    case first =>
      go_region_with (first | (go_at_call 8; refine (neighborC_any D x d (rev l) _ h0 h1 x0 xD d0 dD r0 r2).mono ?_; rintro e w8 ⟨rfl, hb8⟩; rw [HR.out]) | (go_at_call 11; refine (reverse_any l _ l0 l2).mono ?_; rintro e w7 ⟨rfl, hw7⟩; have hw7' := hw7.symm; subst hw7'))
      all_goals
        go_wp2_with fail
        go_meet
        exact ⟨rfl, hb6.trans (Below.trans ((Below.refl _ _).drew) (hb8.mono hb6.size))⟩
    case rest =>
      obtain ⟨rfl, hb7⟩ := hcut
      go_wp2
      go_ret
      exact ⟨rfl, hb7⟩
end Go.Proofs.Qxb6613077aFmt
