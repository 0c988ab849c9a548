/-
  THE WALK of FnNeighborClockwiseWalksTheCircle.
-/
import Derived.Test.Qxb6613077aFmtW6
namespace Go.Proofs.Qxb6613077aFmt
open Go.RowKit

set_option maxHeartbeats 400000 in
theorem walk_out (D a d : Int) (w : World) (h : D < 1 ∨ 10 < D ∨ d < 0 ∨ D ≤ d ∨ a < 0 ∨ p8 D ≤ a) :
    Calls Tryf.prog 3 #[.int .i64 D, .int .i64 a, .int .i64 d] w fun e w' => e = .returned (.bool true) ∧ Below w.heap.size w w' := by
  by_cases h1 : D < 1
  · go_enter Tryf.func3, Tryf.ntmps3
    go_wp2
    go_ret
    exact ⟨rfl, Below.refl _ _⟩
  · by_cases h2 : 10 < D
    · go_enter Tryf.func3, Tryf.ntmps3
      go_wp2
      go_ret
      exact ⟨rfl, Below.refl _ _⟩
    · by_cases h3 : d < 0
      · go_enter Tryf.func3, Tryf.ntmps3
        go_wp2
        go_ret
        exact ⟨rfl, Below.refl _ _⟩
      · by_cases h4 : D ≤ d
        · go_enter Tryf.func3, Tryf.ntmps3
          go_wp2
          go_ret
          exact ⟨rfl, Below.refl _ _⟩
        · by_cases h5 : a < 0
          · go_enter Tryf.func3, Tryf.ntmps3
            go_wp2
            go_ret
            exact ⟨rfl, Below.refl _ _⟩
          · have h6 : p8 D ≤ a := by omega
            go_enter Tryf.func3, Tryf.ntmps3
            go_wp2_with (go_at_call 6; refine (pow8_any D _ (by omega) (by omega)).mono ?_; rintro e w2 ⟨rfl, hw2⟩; have hw2' := hw2.symm; subst hw2')
            go_ret
            exact ⟨rfl, Below.refl _ _⟩

set_option maxHeartbeats 1000000 in
theorem walk_in (D a d : Int) (w : World) (h0 : 1 ≤ D) (h1 : D ≤ 10) (a0 : 0 ≤ a) (aD : a < p8 D) (d0 : 0 ≤ d) (dD : d < D) :
    Calls Tryf.prog 3 #[.int .i64 D, .int .i64 a, .int .i64 d] w fun e w' => e = .returned (.bool true) ∧ Below w.heap.size w w' := by
  have hp := p8_bd D (by omega) h1
  have a1 : a < 1073741824 := by omega
  have hp9 := p8_bd9 d d0 (by omega)
  go_enter Tryf.func3, Tryf.ntmps3
  go_wp2_with (first | (go_at_call_of 6 (Value.int IntKind.i64 D); refine (pow8_any D _ (by omega) (by omega)).mono ?_; rintro e w2 ⟨rfl, hw2⟩; have hw2' := hw2.symm; subst hw2') | (go_at_call_of 6 (Value.int IntKind.i64 d); refine (pow8_any d _ d0 (by omega)).mono ?_; rintro e w2 ⟨rfl, hw2⟩; have hw2' := hw2.symm; subst hw2') | (go_at_call 7; refine (complete_any D _).mono ?_; rintro e w3 ⟨rfl, hb3⟩))
  have hB : w.heap.size ≤ w3.heap.size := hb3.size
  have hc3 : (w3.alloc (Obj.cells #[Value.int IntKind.i64 D] 24)).cell? ⟨w3.heap.size, 0, none⟩ = some (.int .i64 D) := by simp
  have hbel : Below w.heap.size w (w3.alloc (Obj.cells #[Value.int IntKind.i64 D] 24)) := hb3.alloc hB _
  have hs3 : w3.heap.size < (w3.alloc (Obj.cells #[Value.int IntKind.i64 D] 24)).heap.size := by simp
  generalize w3.alloc (Obj.cells #[Value.int IntKind.i64 D] 24) = W3 at *
  generalize w3.heap.size = B at *
  clear hb3 w3
  go_loopw [9, 10] (fun q k wr => ∃ n : Nat, 1 ≤ n ∧ n ≤ 9 ∧ k = .int .i64 n ∧ q = .int .i64 (mv a (p8 d) (n - 1)) ∧ wr.cell? ⟨B, 0, none⟩ = some (.int .i64 D) ∧ Below w.heap.size w wr ∧ B < wr.heap.size) (fun _ k _ => 9 - (intOf k).toNat)
  case atStart => exact ⟨1, by omega, by omega, rfl, by rw [mv_zero a (p8 d) _ (by decide)], hc3, hbel, hs3⟩
  case round =>
    clear hc3 hbel hs3
    obtain ⟨n, n1, n9, rfl, rfl, hc, hb, hs⟩ := hrel
    obtain ⟨q, HQ⟩ : ∃ q, Hid (mv a (p8 d) (n - 1) = q) := ⟨_, rfl⟩
    obtain ⟨r, HR⟩ : ∃ r, Hid (mv a (p8 d) n = r) := ⟨_, rfl⟩
    have hq := mv_bd a d D (n - 1) a0 d0 dD h1 aD
    rw [HQ.out] at hq ⊢
    have HN : Hid (mv q (p8 d) (stp 1) = r) := by
      rw [Hid, ← HQ.out, ← HR.out, mv_mv _ _ _ _ (by omega)]
      congr 1
      show (n : Int) - 1 + 1 = n
      omega
    obtain ⟨q0, qD⟩ := hq
    by_cases hlt : n ≤ 8
    · go_wp2_with fail
      refine (neighborC_any D q d 1 _ h0 h1 q0 qD d0 dD (by decide) (by decide)).mono ?_
      rintro e w4 ⟨rfl, hb4⟩
      rw [HN.out]
      have hc4 : w4.cell? ⟨B, 0, none⟩ = some (.int .i64 D) := (hb4.cell (p := ⟨B, 0, none⟩) hs).trans hc
      have hs4 : B < w4.heap.size := Nat.lt_of_lt_of_le hs hb4.size
      have hbb4 : Below w.heap.size w w4 := hb.trans (hb4.mono hb.size)
      clear hb4 hc hs hb
      go_wp2_with fail
      refine (moved_any a d n _ a0 a1 d0 (by omega) (by omega) (by omega)).mono ?_
      rintro e w5 ⟨rfl, hw5⟩
      have hw5' := hw5.symm
      subst hw5'
      rw [HR.out]
      by_cases h4 : n = 4
      · subst h4
        have HS : Hid (mv a (p8 d) (stp 0) = r) := by rw [Hid, ← HR.out]; rfl
        go_wp2_with fail
        refine (neighborC_any D a d 0 _ h0 h1 a0 aD d0 dD (by decide) (by decide)).mono ?_
        rintro e w6 ⟨rfl, hb6⟩
        rw [HS.out]
        go_wp2
        go_roundw
        case rel => exact ⟨5, by omega, by omega, by go_num, by rw [← HR.out]; rfl, (hb6.cell (p := ⟨B, 0, none⟩) hs4).trans hc4, hbb4.trans (hb6.mono hbb4.size), Nat.lt_of_lt_of_le hs4 hb6.size⟩
        case measure => simp [intOf]
      · by_cases h7 : n = 7
        · subst h7
          have HS : Hid (mv a (p8 d) (stp 2) = r) := by rw [Hid, ← HR.out]; rfl
          go_wp2_with fail
          refine (neighborC_any D a d 2 _ h0 h1 a0 aD d0 dD (by decide) (by decide)).mono ?_
          rintro e w6 ⟨rfl, hb6⟩
          rw [HS.out]
          go_wp2
          go_roundw
          case rel => exact ⟨8, by omega, by omega, by go_num, by rw [← HR.out]; rfl, (hb6.cell (p := ⟨B, 0, none⟩) hs4).trans hc4, hbb4.trans (hb6.mono hbb4.size), Nat.lt_of_lt_of_le hs4 hb6.size⟩
          case measure => simp [intOf]
        · have e4 : ((n : Int) == 4) = false := beq_eq_false_iff_ne.2 (by omega)
          have e7 : ((n : Int) == 7) = false := beq_eq_false_iff_ne.2 (by omega)
          go_wp2
          go_roundw
          case rel => exact ⟨n + 1, by omega, by omega, by go_num, by rw [← HR.out]; congr 2; omega, hc4, hbb4, hs4⟩
          case measure => simp [intOf]; omega
    · go_wp2
      go_ret
      exact ⟨rfl, hb⟩

/-- THE WALK, WHOLE. -/
theorem walk_any (D a d : Int) (w : World) :
    Calls Tryf.prog 3 #[.int .i64 D, .int .i64 a, .int .i64 d] w fun e w' => e = .returned (.bool true) ∧ Below w.heap.size w w' := by
  by_cases h : D < 1 ∨ 10 < D ∨ d < 0 ∨ D ≤ d ∨ a < 0 ∨ p8 D ≤ a
  · exact walk_out D a d w h
  · exact walk_in D a d w (by omega) (by omega) (by omega) (by omega) (by omega) (by omega)
end Go.Proofs.Qxb6613077aFmt
