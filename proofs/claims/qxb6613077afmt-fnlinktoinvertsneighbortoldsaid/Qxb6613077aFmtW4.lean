/-
  WALKS of the law's own model: zzHas, zzModelNeighbors.
-/
import Derived.Test.Qxb6613077aFmtProg
import Derived.Test.Qxb6613077aFmtPlain2
import Derived.WalkSpells
import Derived.WalkLawsBesides
import Derived.Outline
namespace Go.Proofs.Qxb6613077aFmt
open Go.RowKit
set_option linter.unusedSimpArgs false

theorem zzHas_any (s p : Int) (w : World) (h0 : 0 ≤ p) (h1 : p ≤ 7) :
    Calls Tryf.prog 12 #[.int .u8 s, .int .i64 p] w fun e w' => e = .returned (.bool (hasB s p)) ∧ w' = w := by
  go_enter Tryf.func12, Tryf.ntmps12
  go_wp2
  go_ret
  exact ⟨rfl, rfl⟩

set_option maxHeartbeats 1000000 in
theorem model_any (s : Int) (p : Nat) (w : World) (h1 : p ≤ 7) (hp : hasB s p = true) :
    Calls Tryf.prog 13 #[.int .u8 s, .int .i64 p] w fun e w' => e = .returned (.agg #[.int .i64 (mnF s p 0), .int .i64 (mnF s p 1), .int .i64 (mnF s p 2)]) ∧ Below w.heap.size w w' := by
  go_enter Tryf.func13, Tryf.ntmps13
  go_wp2
  go_loopw [6, 7, 8] (fun m a x wr => ∃ k : Nat, k ≤ 8 ∧ x = .int .i64 k ∧ m = .int .i64 (rl s k).length ∧ a = .int .i64 (atF s p k) ∧ wr = (w.alloc (.cells #[.int .i64 0, .int .i64 0, .int .i64 0] 32)).alloc (.cells (ringArr s k) 43)) (fun _ _ x _ => 8 - (intOf x).toNat)
  case atStart => exact ⟨0, by omega, rfl, rfl, by rw [atF, if_neg (by omega)], by rw [ringArr_zero]⟩
  case round =>
    obtain ⟨k, hk, rfl, rfl, rfl, rfl⟩ := hrel
    have hm := rl_len s k
    by_cases hlt : k < 8
    · by_cases hb : hasB s k = true
      · have hg := ringArr_get s k (rl s k).length hk (by omega)
        have HR : Hid (ringArr s (k + 1) = (ringArr s k).setIfInBounds (rl s k).length (.int .i64 k)) := ringArr_yes s k hb hlt
        have HL : Hid ((rl s (k + 1)).length = (rl s k).length + 1) := by rw [Hid, rl_yes s k hb]; simp
        by_cases hkp : k = p
        · subst hkp
          go_wp2_with (go_at_call 12; refine (zzHas_any s _ _ (by omega) (by omega)).mono ?_; rintro e w' ⟨rfl, rfl⟩)
          go_roundw
          case rel => exact ⟨k + 1, by omega, by go_num, by rw [HL.out]; go_num, by rw [atF, if_pos (by omega), Int.toNat_natCast], by rw [HR.out]⟩
          case measure => simp [intOf]; omega
        · have hne : ((k : Int) == (p : Int)) = false := beq_eq_false_iff_ne.2 (by omega)
          have HA : Hid (atF s p (k + 1) = atF s p k) := by
            by_cases h : (p : Int) < k
            · rw [Hid, atF, atF, if_pos (by omega), if_pos h]
            · rw [Hid, atF, atF, if_neg (by omega), if_neg h]
          clear hkp
          go_wp2_with (go_at_call 12; refine (zzHas_any s _ _ (by omega) (by omega)).mono ?_; rintro e w' ⟨rfl, rfl⟩)
          go_roundw
          case rel => exact ⟨k + 1, by omega, by go_num, by rw [HL.out]; go_num, by rw [HA.out], by rw [HR.out]⟩
          case measure => simp [intOf]; omega
      · have hb' : hasB s k = false := by simpa using hb
        have HA : Hid (atF s p (k + 1) = atF s p k) := by
          have hkp : k ≠ p := by rintro rfl; exact hb hp
          by_cases h : (p : Int) < k
          · rw [Hid, atF, atF, if_pos (by omega), if_pos h]
          · rw [Hid, atF, atF, if_neg (by omega), if_neg h]
        have HR : Hid (ringArr s (k + 1) = ringArr s k) := ringArr_no s k hb'
        have HL : Hid (rl s (k + 1) = rl s k) := rl_no s k hb'
        clear hb
        go_wp2_with (go_at_call 12; refine (zzHas_any s _ _ (by omega) (by omega)).mono ?_; rintro e w' ⟨rfl, rfl⟩)
        go_roundw
        case rel => exact ⟨k + 1, by omega, by go_num, by rw [HL.out], by rw [HA.out], by rw [HR.out]⟩
        case measure => simp [intOf]; omega
    · obtain rfl : k = 8 := by omega
      have HA : Hid (atF s p 8 = (rl s p).length) := by rw [Hid, atF, if_pos (by omega), Int.toNat_natCast]
      have hpos : (rl s p).length < (rl s 8).length := by
        have := rl_mono s (show p + 1 ≤ 8 by omega)
        rw [rl_yes s p hp] at this
        simp at this
        omega
      rw [HA.out]
      obtain ⟨m, HM⟩ : ∃ m, Hid ((rl s 8).length = m) := ⟨_, rfl⟩
      obtain ⟨a, HAA⟩ : ∃ a, Hid ((rl s p).length = a) := ⟨_, rfl⟩
      rw [HM.out, HAA.out] at hpos
      rw [HM.out] at hm
      rw [HM.out, HAA.out]
      obtain ⟨c0, HC0⟩ : ∃ c, Hid (cnd s p 0 = c) := ⟨_, rfl⟩
      obtain ⟨c1, HC1⟩ : ∃ c, Hid (cnd s p 1 = c) := ⟨_, rfl⟩
      obtain ⟨c2, HC2⟩ : ∃ c, Hid (cnd s p 2 = c) := ⟨_, rfl⟩
      have g1 : (ringArr s 8)[(a + 1) % m]? = some (.int .i64 c1) := by
        rw [ringArr_get s 8 _ (by omega) (by have := Nat.mod_lt (a + 1) (show 0 < m by omega); omega), ← HC1.out]
        simp only [cnd, Int.toNat_natCast, HM.out, HAA.out]
      have g2 : (ringArr s 8)[(a + m - 1) % m]? = some (.int .i64 c2) := by
        rw [ringArr_get s 8 _ (by omega) (by have := Nat.mod_lt (a + m - 1) (show 0 < m by omega); omega), ← HC2.out]
        simp only [cnd, Int.toNat_natCast, HM.out, HAA.out]
      have gb1 := Nat.mod_lt (a + 1) (show 0 < m by omega)
      have gb2 := Nat.mod_lt (a + m - 1) (show 0 < m by omega)
      have gi1 := Int.emod_lt_of_pos ((a : Int) + 1) (show (0 : Int) < m by omega)
      have gj1 := Int.emod_nonneg ((a : Int) + 1) (show (m : Int) ≠ 0 by omega)
      have gi2 := Int.emod_lt_of_pos ((a : Int) + m - 1) (show (0 : Int) < m by omega)
      have gj2 := Int.emod_nonneg ((a : Int) + m - 1) (show (m : Int) ≠ 0 by omega)
      have ET : Hid (hasB s ((p + 4) % 8) = true → Obj.cells #[.int .i64 (((p : Int) + 4) % 8), .int .i64 c1, .int .i64 c2] 32 = Obj.cells #[.int .i64 c0, .int .i64 c1, .int .i64 c2] 32) := by
        intro hb; rw [← HC0.out]; simp [cnd, hb]
      have EF : Hid (hasB s ((p + 4) % 8) = false → Obj.cells #[.int .i64 (-1), .int .i64 c1, .int .i64 c2] 32 = Obj.cells #[.int .i64 c0, .int .i64 c1, .int .i64 c2] 32) := by
        intro hb; rw [← HC0.out]; simp [cnd, hb]
      obtain ⟨T0, HT0⟩ : ∃ x, Hid (t0 p c0 = x) := ⟨_, rfl⟩
      obtain ⟨T1, HT1⟩ : ∃ x, Hid (t1 p c0 c1 = x) := ⟨_, rfl⟩
      obtain ⟨T2, HT2⟩ : ∃ x, Hid (t2 p c0 c1 c2 = x) := ⟨_, rfl⟩
      have HE : Hid (mnF s p 0 = T0 ∧ mnF s p 1 = T1 ∧ mnF s p 2 = T2) := by
        rw [← HT0.out, ← HT1.out, ← HT2.out, ← HC0.out, ← HC1.out, ← HC2.out]; exact ⟨rfl, rfl, rfl⟩
      clear HA
      cases hb : hasB s ((p + 4) % 8)
      all_goals
        go_wp2_with (go_at_call 12; refine (zzHas_any s _ _ (by omega) (by omega)).mono ?_; rintro e w' ⟨rfl, rfl⟩)
        first | rw [ET.out hb] | rw [EF.out hb]
        clear ET EF
        go_loopw [12] (fun k wr => ∃ n : Nat, n ≤ 3 ∧ k = .int .i64 n ∧ wr = (((w.alloc (.cells #[.int .i64 0, .int .i64 0, .int .i64 0] 32)).alloc (.cells (ringArr s 8) 43)).alloc (.cells #[.int .i64 c0, .int .i64 c1, .int .i64 c2] 32)).alloc (.cells (toArr T0 T1 T2 n) 32)) (fun k _ => 3 - (intOf k).toNat)
        case atStart => exact ⟨0, by omega, rfl, rfl⟩
        case round =>
          obtain ⟨n, hn, rfl, rfl⟩ := hrel
          have hn4 : n = 0 ∨ n = 1 ∨ n = 2 ∨ n = 3 := by omega
          rcases hn4 with rfl | rfl | rfl | rfl
          · simp only [toArr]
            clear g1 g2 gb1 gb2 gi1 gj1 gi2 gj2
            by_cases hc : c0 < 0
            · have HQ : Hid (T0 = -1) := by rw [Hid, ← HT0.out, t0, if_pos (.inl hc)]
              go_wp2
              go_roundw
              case rel => exact ⟨1, by omega, by go_num, by first | (simp only [toArr, HQ.out]; done) | (simp only [toArr, HQ.out, hcp]; done) | (simp only [toArr, HQ.out, hcq]; done) | (simp only [toArr, HQ.out, hcr]; done) | simp only [toArr, HQ.out, hcq, hcr]⟩
              case measure => simp [intOf]
            · by_cases hcp : c0 = p
              · have HQ : Hid (T0 = -1) := by rw [Hid, ← HT0.out, t0, if_pos (.inr hcp)]
                go_wp2
                go_roundw
                case rel => exact ⟨1, by omega, by go_num, by first | (simp only [toArr, HQ.out]; done) | (simp only [toArr, HQ.out, hcp]; done) | (simp only [toArr, HQ.out, hcq]; done) | (simp only [toArr, HQ.out, hcr]; done) | simp only [toArr, HQ.out, hcq, hcr]⟩
                case measure => simp [intOf]
              · have HQ : Hid (T0 = c0) := by rw [Hid, ← HT0.out, t0, if_neg (by omega)]
                go_wp2
                refine wp_loop_rounds 1 ?_
                rw [rounds_succ]
                go_wp2
                go_roundw
                case rel => exact ⟨1, by omega, by go_num, by first | (simp only [toArr, HQ.out]; done) | (simp only [toArr, HQ.out, hcp]; done) | (simp only [toArr, HQ.out, hcq]; done) | (simp only [toArr, HQ.out, hcr]; done) | simp only [toArr, HQ.out, hcq, hcr]⟩
                case measure => simp [intOf]
          · simp only [toArr]
            clear g1 g2 gb1 gb2 gi1 gj1 gi2 gj2
            by_cases hc : c1 < 0
            · have HQ : Hid (T1 = -1) := by rw [Hid, ← HT1.out, t1, if_pos (.inl hc)]
              go_wp2
              go_roundw
              case rel => exact ⟨2, by omega, by go_num, by first | (simp only [toArr, HQ.out]; done) | (simp only [toArr, HQ.out, hcp]; done) | (simp only [toArr, HQ.out, hcq]; done) | (simp only [toArr, HQ.out, hcr]; done) | simp only [toArr, HQ.out, hcq, hcr]⟩
              case measure => simp [intOf]
            · by_cases hcp : c1 = p
              · have HQ : Hid (T1 = -1) := by rw [Hid, ← HT1.out, t1, if_pos (.inr (.inl hcp))]
                go_wp2
                go_roundw
                case rel => exact ⟨2, by omega, by go_num, by first | (simp only [toArr, HQ.out]; done) | (simp only [toArr, HQ.out, hcp]; done) | (simp only [toArr, HQ.out, hcq]; done) | (simp only [toArr, HQ.out, hcr]; done) | simp only [toArr, HQ.out, hcq, hcr]⟩
                case measure => simp [intOf]
              · by_cases hcq : T0 = c1
                · have HQ : Hid (T1 = -1) := by rw [Hid, ← HT1.out, t1, if_pos (.inr (.inr (by rw [HT0.out]; exact hcq)))]
                  go_wp2
                  refine wp_loop_rounds 2 ?_
                  rw [rounds_succ]
                  go_wp2
                  rw [rounds_succ]
                  go_wp2
                  go_roundw
                  case rel => exact ⟨2, by omega, by go_num, by first | (simp only [toArr, HQ.out]; done) | (simp only [toArr, HQ.out, hcp]; done) | (simp only [toArr, HQ.out, hcq]; done) | (simp only [toArr, HQ.out, hcr]; done) | simp only [toArr, HQ.out, hcq, hcr]⟩
                  case measure => simp [intOf]
                · have HQ : Hid (T1 = c1) := by rw [Hid, ← HT1.out, t1, if_neg (by rw [HT0.out]; omega)]
                  go_wp2
                  refine wp_loop_rounds 2 ?_
                  rw [rounds_succ]
                  go_wp2
                  rw [rounds_succ]
                  go_wp2
                  go_roundw
                  case rel => exact ⟨2, by omega, by go_num, by first | (simp only [toArr, HQ.out]; done) | (simp only [toArr, HQ.out, hcp]; done) | (simp only [toArr, HQ.out, hcq]; done) | (simp only [toArr, HQ.out, hcr]; done) | simp only [toArr, HQ.out, hcq, hcr]⟩
                  case measure => simp [intOf]
          · simp only [toArr]
            clear g1 g2 gb1 gb2 gi1 gj1 gi2 gj2
            by_cases hc : c2 < 0
            · have HQ : Hid (T2 = -1) := by rw [Hid, ← HT2.out, t2, if_pos (.inl hc)]
              go_wp2
              go_roundw
              case rel => exact ⟨3, by omega, by go_num, by first | (simp only [toArr, HQ.out]; done) | (simp only [toArr, HQ.out, hcp]; done) | (simp only [toArr, HQ.out, hcq]; done) | (simp only [toArr, HQ.out, hcr]; done) | simp only [toArr, HQ.out, hcq, hcr]⟩
              case measure => simp [intOf]
            · by_cases hcp : c2 = p
              · have HQ : Hid (T2 = -1) := by rw [Hid, ← HT2.out, t2, if_pos (.inr (.inl hcp))]
                go_wp2
                go_roundw
                case rel => exact ⟨3, by omega, by go_num, by first | (simp only [toArr, HQ.out]; done) | (simp only [toArr, HQ.out, hcp]; done) | (simp only [toArr, HQ.out, hcq]; done) | (simp only [toArr, HQ.out, hcr]; done) | simp only [toArr, HQ.out, hcq, hcr]⟩
                case measure => simp [intOf]
              · by_cases hcq : T0 = c2
                · have HQ : Hid (T2 = -1) := by rw [Hid, ← HT2.out, t2, if_pos (.inr (.inr (.inl (by rw [HT0.out]; exact hcq))))]
                  by_cases hcr : T1 = c2
                  · skip
                    go_wp2
                    refine wp_loop_rounds 3 ?_
                    rw [rounds_succ]
                    go_wp2
                    rw [rounds_succ]
                    go_wp2
                    rw [rounds_succ]
                    go_wp2
                    go_roundw
                    case rel => exact ⟨3, by omega, by go_num, by first | (simp only [toArr, HQ.out]; done) | (simp only [toArr, HQ.out, hcp]; done) | (simp only [toArr, HQ.out, hcq]; done) | (simp only [toArr, HQ.out, hcr]; done) | simp only [toArr, HQ.out, hcq, hcr]⟩
                    case measure => simp [intOf]
                  · skip
                    go_wp2
                    refine wp_loop_rounds 3 ?_
                    rw [rounds_succ]
                    go_wp2
                    rw [rounds_succ]
                    go_wp2
                    rw [rounds_succ]
                    go_wp2
                    go_roundw
                    case rel => exact ⟨3, by omega, by go_num, by first | (simp only [toArr, HQ.out]; done) | (simp only [toArr, HQ.out, hcp]; done) | (simp only [toArr, HQ.out, hcq]; done) | (simp only [toArr, HQ.out, hcr]; done) | simp only [toArr, HQ.out, hcq, hcr]⟩
                    case measure => simp [intOf]
                · by_cases hcr : T1 = c2
                  · have HQ : Hid (T2 = -1) := by rw [Hid, ← HT2.out, t2, if_pos (.inr (.inr (.inr (by rw [HT1.out]; exact hcr))))]
                    go_wp2
                    refine wp_loop_rounds 3 ?_
                    rw [rounds_succ]
                    go_wp2
                    rw [rounds_succ]
                    go_wp2
                    rw [rounds_succ]
                    go_wp2
                    go_roundw
                    case rel => exact ⟨3, by omega, by go_num, by first | (simp only [toArr, HQ.out]; done) | (simp only [toArr, HQ.out, hcp]; done) | (simp only [toArr, HQ.out, hcq]; done) | (simp only [toArr, HQ.out, hcr]; done) | simp only [toArr, HQ.out, hcq, hcr]⟩
                    case measure => simp [intOf]
                  · have HQ : Hid (T2 = c2) := by rw [Hid, ← HT2.out, t2, if_neg (by rw [HT0.out, HT1.out]; omega)]
                    go_wp2
                    refine wp_loop_rounds 3 ?_
                    rw [rounds_succ]
                    go_wp2
                    rw [rounds_succ]
                    go_wp2
                    rw [rounds_succ]
                    go_wp2
                    go_roundw
                    case rel => exact ⟨3, by omega, by go_num, by first | (simp only [toArr, HQ.out]; done) | (simp only [toArr, HQ.out, hcp]; done) | (simp only [toArr, HQ.out, hcq]; done) | (simp only [toArr, HQ.out, hcr]; done) | simp only [toArr, HQ.out, hcq, hcr]⟩
                    case measure => simp [intOf]
          · simp only [toArr]
            clear g1 g2 gb1 gb2 gi1 gj1 gi2 gj2
            go_wp2
            refine bodyPost_ret (v := .agg #[.int .i64 T0, .int .i64 T1, .int .i64 T2]) (by simp [results, Tryf.results13, go_sem]) rfl ⟨by rw [HE.out.1, HE.out.2.1, HE.out.2.2], ?_⟩
            exact ((((Below.refl _ _).alloc (Nat.le_refl _) _).alloc (by simp) _).alloc (by simp; omega) _).alloc (by simp; omega) _
end Go.Proofs.Qxb6613077aFmt
