/-
  WALKS of the ring: neighbor, linkAmong, linkTo, ZZneighbor, ZZlinkTo.
-/
import Derived.Test.Qxb6613077aFmtW2
namespace Go.Proofs.Qxb6613077aFmt
open Go.RowKit

theorem idx0 (x0 x1 x2 : Value) (w : World) : (Instr.index 32 (.agg #[x0, x1, x2]) (.int .i64 0)).run Tryf.prog w = .ok x0 w := by kernel_rfl
theorem idx1 (x0 x1 x2 : Value) (w : World) : (Instr.index 32 (.agg #[x0, x1, x2]) (.int .i64 1)).run Tryf.prog w = .ok x1 w := by kernel_rfl
theorem idx2 (x0 x1 x2 : Value) (w : World) : (Instr.index 32 (.agg #[x0, x1, x2]) (.int .i64 2)).run Tryf.prog w = .ok x2 w := by kernel_rfl

set_option maxHeartbeats 400000 in
theorem neighbor_any (s p l : Int) (w : World) (h0 : 0 ≤ p) (h1 : p ≤ 7) (l0 : 0 ≤ l) (l2 : l ≤ 2) :
    Calls Tryf.prog 18 #[.int .u8 s, .int .i64 p, .int .i64 l] w fun e w' => e = .returned (.tuple #[.int .i64 (nbF s p l.toNat), .bool (decide (0 ≤ nbF s p l.toNat))]) ∧ Below w.heap.size w w' := by
  have i0 := idx0
  have i1 := idx1
  have i2 := idx2
  have hl : l = 0 ∨ l = 1 ∨ l = 2 := by omega
  rcases hl with rfl | rfl | rfl
  all_goals
    go_enter Tryf.func18, Tryf.ntmps18
    go_wp2_with (go_at_call 22; refine (neighbors_any s p _ h0 h1).mono ?_; rintro e w' ⟨rfl, hb⟩)
    go_ret2
    exact ⟨rfl, by assumption⟩

set_option maxHeartbeats 400000 in
theorem linkAmong_any (x0 x1 x2 q : Int) (w : World) :
    Calls Tryf.prog 23 #[.agg #[.int .i64 x0, .int .i64 x1, .int .i64 x2], .int .i64 q] w fun e w' => e = .returned (.tuple #[.int .i64 (laL x0 x1 x2 q), .bool (laB x0 x1 x2 q)]) ∧ Below w.heap.size w w' := by
  go_enter Tryf.func23, Tryf.ntmps23
  go_wp2
  go_loop [6] (fun l => ∃ k : Nat, k ≤ 3 ∧ l = .int .i64 k ∧ (1 ≤ k → x0 ≠ q) ∧ (2 ≤ k → x1 ≠ q) ∧ (3 ≤ k → x2 ≠ q)) (fun l => 3 - (intOf l).toNat)
  case atStart => exact ⟨0, by omega, rfl, by omega, by omega, by omega⟩
  case round =>
    obtain ⟨k, hk, rfl, k1, k2, k3⟩ := hrel
    have hk4 : k = 0 ∨ k = 1 ∨ k = 2 ∨ k = 3 := by omega
    rcases hk4 with rfl | rfl | rfl | rfl
    · by_cases h : x0 = q
      · have e1 : Hid (laL x0 x1 x2 q = 0 ∧ laB x0 x1 x2 q = true) := by constructor <;> simp [laL, laB, h]
        subst h
        clear k1 k2 k3
        go_wp2
        go_ret2
        exact ⟨by rw [e1.out.1, e1.out.2]; rfl, (Below.refl _ _).alloc (Nat.le_refl _) _⟩
      · clear k1 k2 k3
        go_wp2
        go_round
        case rel => exact ⟨1, by omega, by go_num, fun _ => h, by omega, by omega⟩
        case measure => simp [intOf]
    · have h0 := k1 (by omega)
      by_cases h : x1 = q
      · have e1 : Hid (laL x0 x1 x2 q = 1 ∧ laB x0 x1 x2 q = true) := by constructor <;> simp [laL, laB, h, h0]
        subst h
        clear k1 k2 k3
        go_wp2
        go_ret2
        exact ⟨by rw [e1.out.1, e1.out.2]; rfl, (Below.refl _ _).alloc (Nat.le_refl _) _⟩
      · clear k1 k2 k3
        go_wp2
        go_round
        case rel => exact ⟨2, by omega, by go_num, fun _ => h0, fun _ => h, by omega⟩
        case measure => simp [intOf]
    · have h0 := k1 (by omega)
      have h1 := k2 (by omega)
      by_cases h : x2 = q
      · have e1 : Hid (laL x0 x1 x2 q = 2 ∧ laB x0 x1 x2 q = true) := by constructor <;> simp [laL, laB, h, h0, h1]
        subst h
        clear k1 k2 k3
        go_wp2
        go_ret2
        exact ⟨by rw [e1.out.1, e1.out.2]; rfl, (Below.refl _ _).alloc (Nat.le_refl _) _⟩
      · clear k1 k2 k3
        go_wp2
        go_round
        case rel => exact ⟨3, by omega, by go_num, fun _ => h0, fun _ => h1, fun _ => h⟩
        case measure => simp [intOf]
    · have h0 := k1 (by omega)
      have h1 := k2 (by omega)
      have h2 := k3 (by omega)
      have e1 : Hid (laL x0 x1 x2 q = 0 ∧ laB x0 x1 x2 q = false) := by constructor <;> simp [laL, laB, h0, h1, h2]
      clear k1 k2 k3 h0 h1 h2
      go_wp2
      go_ret2
      exact ⟨by rw [e1.out.1, e1.out.2]; rfl, (Below.refl _ _).alloc (Nat.le_refl _) _⟩

set_option maxHeartbeats 400000 in
theorem linkTo_any (s p q : Int) (w : World) (h0 : 0 ≤ p) (h1 : p ≤ 7) :
    Calls Tryf.prog 21 #[.int .u8 s, .int .i64 p, .int .i64 q] w fun e w' => e = .returned (.tuple #[.int .i64 (laL (nbF s p 0) (nbF s p 1) (nbF s p 2) q), .bool (laB (nbF s p 0) (nbF s p 1) (nbF s p 2) q)]) ∧ Below w.heap.size w w' := by
  go_enter Tryf.func21, Tryf.ntmps21
  go_wp2_with (first | (go_at_call 22; refine (neighbors_any s p _ h0 h1).mono ?_; rintro e w1 ⟨rfl, hb1⟩) | (go_at_call 23; refine (linkAmong_any _ _ _ q _).mono ?_; rintro e w2 ⟨rfl, hb2⟩))
  go_ret2
  exact ⟨rfl, hb1.trans (hb2.mono hb1.size)⟩

set_option maxHeartbeats 400000 in
theorem zzlinkTo_any (s p q : Int) (w : World) (h0 : 0 ≤ p) (h1 : p ≤ 7) :
    Calls Tryf.prog 15 #[.int .u8 s, .int .i64 p, .int .i64 q] w fun e w' => e = .returned (.tuple #[.int .i64 (laL (nbF s p 0) (nbF s p 1) (nbF s p 2) q), .bool (laB (nbF s p 0) (nbF s p 1) (nbF s p 2) q)]) ∧ Below w.heap.size w w' := by
  go_enter Tryf.func15, Tryf.ntmps15
  go_wp2_with (go_at_call 21; refine (linkTo_any s p q _ h0 h1).mono ?_; rintro e w1 ⟨rfl, hb1⟩)
  go_ret2
  exact ⟨rfl, by assumption⟩

set_option maxHeartbeats 400000 in
theorem zzneighbor_any (s p l : Int) (w : World) (h0 : 0 ≤ p) (h1 : p ≤ 7) (l0 : 0 ≤ l) (l2 : l ≤ 2) :
    Calls Tryf.prog 14 #[.int .u8 s, .int .i64 p, .int .i64 l] w fun e w' => e = .returned (.tuple #[.int .i64 (nbF s p l.toNat), .bool (decide (0 ≤ nbF s p l.toNat))]) ∧ Below w.heap.size w w' := by
  go_enter Tryf.func14, Tryf.ntmps14
  go_wp2_with (go_at_call 18; refine (neighbor_any s p l _ h0 h1 l0 l2).mono ?_; rintro e w1 ⟨rfl, hb1⟩)
  go_ret2
  exact ⟨rfl, by assumption⟩
end Go.Proofs.Qxb6613077aFmt
