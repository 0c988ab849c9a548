/-
  THE WALK of FnLinkToInvertsNeighbor.
-/
import Derived.Test.Qxb6613077aFmtW3
import Derived.Test.Qxb6613077aFmtW4
import Derived.Test.Qxb6613077aFmtPlain3
namespace Go.Proofs.Qxb6613077aFmt
open Go.RowKit

set_option maxHeartbeats 400000 in
theorem link_out (s p l : Int) (w : World) (h : p < 0 ∨ 7 < p ∨ l < 0 ∨ 2 < l) :
    Calls Tryf.prog 5 #[.int .u8 s, .int .i64 p, .int .i64 l] w fun e w' => e = .returned (.bool true) ∧ Below w.heap.size w w' := by
  by_cases h1 : p < 0
  · go_enter Tryf.func5, Tryf.ntmps5
    go_wp2
    go_ret
    exact ⟨rfl, Below.refl _ _⟩
  · by_cases h2 : 7 < p
    · go_enter Tryf.func5, Tryf.ntmps5
      go_wp2
      go_ret
      exact ⟨rfl, Below.refl _ _⟩
    · by_cases h3 : l < 0
      · go_enter Tryf.func5, Tryf.ntmps5
        go_wp2
        go_ret
        exact ⟨rfl, Below.refl _ _⟩
      · have h4 : 2 < l := by omega
        go_enter Tryf.func5, Tryf.ntmps5
        go_wp2
        go_ret
        exact ⟨rfl, Below.refl _ _⟩

set_option maxHeartbeats 400000 in
theorem link_none (s p l : Int) (w : World) (p0 : 0 ≤ p) (p7 : p ≤ 7) (l0 : 0 ≤ l) (l2 : l ≤ 2) (hh : hasB s p = false) :
    Calls Tryf.prog 5 #[.int .u8 s, .int .i64 p, .int .i64 l] w fun e w' => e = .returned (.bool true) ∧ Below w.heap.size w w' := by
  go_enter Tryf.func5, Tryf.ntmps5
  go_wp2_with (go_at_call 12; refine (zzHas_any s _ _ (by omega) (by omega)).mono ?_; rintro e w' ⟨rfl, rfl⟩)
  go_ret
  exact ⟨rfl, Below.refl _ _⟩

set_option maxHeartbeats 400000 in
theorem link_in (s : Int) (p : Nat) (l : Int) (w : World) (s0 : 0 ≤ s) (s1 : s ≤ 255) (p7 : p ≤ 7) (l0 : 0 ≤ l) (l2 : l ≤ 2) (hh : hasB s p = true) :
    Calls Tryf.prog 5 #[.int .u8 s, .int .i64 p, .int .i64 l] w fun e w' => e = .returned (.bool true) ∧ Below w.heap.size w w' := by
  have i0 := idx0
  have i1 := idx1
  have i2 := idx2
  have hL := link_law s p s0 s1 (by omega) (by omega) hh l.toNat (by omega)
  obtain ⟨hm, hq⟩ := hL
  have hl : l = 0 ∨ l = 1 ∨ l = 2 := by omega
  rcases hq with hneg | ⟨hB, hL⟩
  · have hd : decide (0 ≤ nbF s p l.toNat) = false := decide_eq_false (by omega)
    rcases hl with rfl | rfl | rfl
    all_goals
      simp only [Int.toNat_zero, Int.toNat_one, Int.reduceToNat] at hm hneg hd
      have hm' := hm.symm
      clear hm
      go_enter Tryf.func5, Tryf.ntmps5
      go_wp2_with (first | (go_at_call 12; refine (zzHas_any s _ _ (by omega) (by omega)).mono ?_; rintro e w' ⟨rfl, hw⟩; subst hw) | (go_at_call 13; refine (model_any s p _ p7 hh).mono ?_; rintro e w1 ⟨rfl, hb1⟩) | (go_at_call 14; refine (zzneighbor_any s p _ _ (by omega) (by omega) l0 l2).mono ?_; rintro e w2 ⟨rfl, hb2⟩))
      go_ret
      exact ⟨rfl, hb1.trans (hb2.mono hb1.size)⟩
  · by_cases hneg : nbF s p l.toNat < 0
    · have hd : decide (0 ≤ nbF s p l.toNat) = false := decide_eq_false (by omega)
      clear hB hL
      rcases hl with rfl | rfl | rfl
      all_goals
        simp only [Int.toNat_zero, Int.toNat_one, Int.reduceToNat] at hm hneg hd
        have hm' := hm.symm
        clear hm
        go_enter Tryf.func5, Tryf.ntmps5
        go_wp2_with (first | (go_at_call 12; refine (zzHas_any s _ _ (by omega) (by omega)).mono ?_; rintro e w' ⟨rfl, hw⟩; subst hw) | (go_at_call 13; refine (model_any s p _ p7 hh).mono ?_; rintro e w1 ⟨rfl, hb1⟩) | (go_at_call 14; refine (zzneighbor_any s p _ _ (by omega) (by omega) l0 l2).mono ?_; rintro e w2 ⟨rfl, hb2⟩))
        go_ret
        exact ⟨rfl, hb1.trans (hb2.mono hb1.size)⟩
    · have hd : decide (0 ≤ nbF s p l.toNat) = true := decide_eq_true (by omega)
      rw [Int.toNat_of_nonneg l0] at hL
      rcases hl with rfl | rfl | rfl
      all_goals
        simp only [Int.toNat_zero, Int.toNat_one, Int.reduceToNat] at hm hneg hd hB hL
        have hm' := hm.symm
        clear hm
        go_enter Tryf.func5, Tryf.ntmps5
        go_wp2_with (first | (go_at_call 12; refine (zzHas_any s _ _ (by omega) (by omega)).mono ?_; rintro e w' ⟨rfl, hw⟩; subst hw) | (go_at_call 13; refine (model_any s p _ p7 hh).mono ?_; rintro e w1 ⟨rfl, hb1⟩) | (go_at_call 14; refine (zzneighbor_any s p _ _ (by omega) (by omega) l0 l2).mono ?_; rintro e w2 ⟨rfl, hb2⟩) | (go_at_call 15; refine (zzlinkTo_any s p _ _ (by omega) (by omega)).mono ?_; rintro e w3 ⟨rfl, hb3⟩))
        go_ret
        exact ⟨rfl, (hb1.trans (hb2.mono hb1.size)).trans (hb3.mono (Nat.le_trans hb1.size hb2.size))⟩

/-- THE WALK, WHOLE: for every input the law returns true; nothing old has turned. -/
theorem link_any (s p l : Int) (w : World) (s0 : 0 ≤ s) (s1 : s ≤ 255) :
    Calls Tryf.prog 5 #[.int .u8 s, .int .i64 p, .int .i64 l] w fun e w' => e = .returned (.bool true) ∧ Below w.heap.size w w' := by
  by_cases h : p < 0 ∨ 7 < p ∨ l < 0 ∨ 2 < l
  · exact link_out s p l w h
  · obtain ⟨n, rfl⟩ := Int.eq_ofNat_of_zero_le (show 0 ≤ p by omega)
    cases hh : hasB s n with
    | false => exact link_none s n l w (by omega) (by omega) (by omega) (by omega) hh
    | true => exact link_in s n l w s0 s1 (by omega) (by omega) (by omega) hh
end Go.Proofs.Qxb6613077aFmt
