/-
  WALK of b1Live.
-/
import Derived.Test.Qxb6613083aG1
import Derived.Test.Qxb6613083aM2
namespace Go.Proofs.Qxb6613083a
open Go.RowKit Go.BigFrame

theorem seg_upd (F : Nat → Ev) (k : Nat) (e : Ev) : seg (upd F k e) 0 (k + 1) = seg F 0 k ++ [e] := by
  rw [seg_succ, Nat.zero_add, upd_same, seg_congr (F := F) (b := 0) (fun i hi => upd_ne _ _ _ (by omega))]

set_option maxHeartbeats 2000000 in
set_option maxRecDepth 100000 in
theorem live_any (a0 : Option Addr) (n0 c0 h0 : Nat) (E0 : Nat → Ev) (a1 : Option Addr) (n1 c1 h1 : Nat) (E1 : Nat → Ev) (a2 : Option Addr) (n2 c2 : Nat) (E2 : Nat → Ev) (w : World) (hn : n0 + n1 + n2 ≤ 1048576) (hh0 : h0 ≤ n0) (hh1 : h1 ≤ n1)
    (q0 : QSl w w.heap.size a0 n0 E0) (q1 : QSl w w.heap.size a1 n1 E1) (q2 : QSl w w.heap.size a2 n2 E2) :
    Calls Try.prog 11 #[.slice a0 n0 c0, .int .i64 h0, .slice a1 n1 c1, .int .i64 h1, .slice a2 n2 c2] w fun r w' => ∃ (g cap : Nat) (F : Nat → Ev), r = .returned (.slice (some ⟨g, 0, none⟩) ((n0 - h0) + (n1 - h1) + n2 : Nat) cap) ∧ w.heap.size ≤ g ∧ QRow w' g ((n0 - h0) + (n1 - h1) + n2) F ∧
      seg F 0 ((n0 - h0) + (n1 - h1) + n2) = seg E0 h0 (n0 - h0) ++ seg E1 h1 (n1 - h1) ++ seg E2 0 n2 ∧ Below w.heap.size w w' := by
  obtain ⟨s1, S1⟩ : ∃ s1 : Nat, Hid (n0 + n1 = s1) := ⟨_, rfl⟩
  obtain ⟨cap, CP⟩ : ∃ cap : Nat, Hid (n0 + n1 + n2 = cap) := ⟨_, rfl⟩
  have hx1 : IntKind.i64.wrap ((n0 : Int) + (n1 : Int)) = (s1 : Int) := by have := S1.out; rw [IntKind.wrap_i64]; omega
  have hx2 : IntKind.i64.wrap ((s1 : Int) + (n2 : Int)) = (cap : Int) := by have := S1.out; have := CP.out; rw [IntKind.wrap_i64]; omega
  have hmk : ∀ W : World, (Instr.makeSlice 23 (.int .i64 0) (.int .i64 cap)).run Try.prog W = .ok (.slice (some ⟨W.heap.size, 0, none⟩) 0 cap) (W.alloc (madeQ cap)) := fun W => by
    have := make23 0 cap (by omega) (by have := CP.out; omega) W
    simpa using this
  go_enter Try.func11, Try.ntmps11
  go_wp2_with fail
  obtain ⟨g, hg⟩ : ∃ g, g = w.heap.size := ⟨_, rfl⟩
  have hrow := madeQ_row w cap
  have hb0 : Below w.heap.size w (w.alloc (madeQ cap)) := (Below.refl _ _).alloc (Nat.le_refl _) _
  generalize w.alloc (madeQ cap) = W1 at *
  rw [← hg] at hrow ⊢
  have hgB : w.heap.size ≤ g := by omega
  have HG : Hid (g = w.heap.size) := hg
  clear hg hmk hx1 hx2
  go_loopw [11, 12] (fun sl i wr => ∃ (k j : Nat) (F : Nat → Ev), h0 ≤ j ∧ j ≤ n0 ∧ k + h0 = j + (0) ∧ sl = .slice (some ⟨g, 0, none⟩) k cap ∧ i = .int .i64 j ∧ QRow wr g cap F ∧ seg F 0 k = ([] : List Ev) ++ seg E0 h0 (j - h0) ∧ Below w.heap.size w wr) (fun _ i _ => n0 - (intOf i).toNat)
  case atStart => exact ⟨0, h0, _, by omega, hh0, by omega, rfl, rfl, hrow, by rw [Nat.sub_self]; rfl, hb0⟩
  case round =>
    clear hrow hb0
    obtain ⟨k, j, F, hj0, hjn, hkj, rfl, rfl, row, hseg, hbel⟩ := hrel
    by_cases hj : j < n0
    · obtain ⟨b, o, rfl, hb, hq'⟩ := q0 (by omega)
      have qA := (hq' j hj).below hb hbel
      obtain ⟨z0, z1, z2, z3, z4⟩ := qA
      have hji : (j : Int) < n0 := by omega
      have HR : Hid (QRow wr g cap F) := row
      have HSG : Hid (seg F 0 k = ([] : List Ev) ++ seg E0 h0 (j - h0)) := hseg
      have hkc : k < cap := by have := CP.out; omega
      obtain ⟨y0, y1, y2, y3, y4⟩ := row.at_ k hkc
      have f0 := row.free (k * 5)
      have f1 := row.free (k * 5 + 1)
      have f2 := row.free (k * 5 + 2)
      have f3 := row.free (k * 5 + 3)
      have f4 := row.free (k * 5 + 4)
      have hgl := row.lt
      have hgn : ¬ g = wr.heap.size := by omega
      have HJ : Hid (k + h0 = j + (0) ∧ h0 ≤ j) := ⟨hkj, hj0⟩
      clear row hseg hkj
      go_wp2_with fail
      go_roundw
      case rel =>
        have hkj := HJ.out
        have c1 : Ch (fun r _ => r = g) wr (wr.setCells g (k * 5) (qcells (E0 j))) := Ch.setCells g _ _ (Ch.refl _ wr) (fun _ _ _ => rfl)
        have hS : Below w.heap.size w (wr.setCells g (k * 5) (qcells (E0 j))) := hbel.trans (c1.below hbel.size (fun r _ hr e => by have : r = g := e; omega))
        refine ⟨k + 1, j + 1, upd F k (E0 j), by omega, by omega, by omega, rfl, by go_num, (HR.out.set hkc (E0 j)).below ((Below.refl _ _).alloc (Nat.le_refl _) _), ?_, hS.alloc hS.size _⟩
        rw [seg_upd, HSG.out, show j + 1 - h0 = (j - h0) + 1 by omega, seg_succ, List.append_assoc, show h0 + (j - h0) = j by omega]
      case measure => simp [intOf]; omega
    · have hjn' : n0 = j := by omega
      subst hjn'
      obtain ⟨P2, HP2⟩ : ∃ P2 : List Ev, Hid (P2 = seg E0 h0 (n0 - h0)) := ⟨_, rfl⟩
      obtain ⟨p2, HP2n⟩ : ∃ p2 : Nat, Hid (p2 = k) := ⟨_, rfl⟩
      have hpb2 : p2 + h0 = n0 := by have := HP2n.out; omega
      go_wp2_with fail
      have hrow := row
      have hb0 := hbel
      go_loopw [11, 13] (fun sl i wr => ∃ (k j : Nat) (F : Nat → Ev), h1 ≤ j ∧ j ≤ n1 ∧ k + h1 = j + (p2) ∧ sl = .slice (some ⟨g, 0, none⟩) k cap ∧ i = .int .i64 j ∧ QRow wr g cap F ∧ seg F 0 k = P2 ++ seg E1 h1 (j - h1) ∧ Below w.heap.size w wr) (fun _ i _ => n1 - (intOf i).toNat)
      case atStart => exact ⟨k, h1, F, Nat.le_refl _, hh1, by have := HP2n.out; omega, rfl, rfl, row, by rw [HP2.out]; simpa [seg] using hseg, hbel⟩
      case round =>
        clear hrow hb0
        obtain ⟨k, j, F, hj0, hjn, hkj, rfl, rfl, row, hseg, hbel⟩ := hrel
        by_cases hj : j < n1
        · obtain ⟨b, o, rfl, hb, hq'⟩ := q1 (by omega)
          have qA := (hq' j hj).below hb hbel
          obtain ⟨z0, z1, z2, z3, z4⟩ := qA
          have hji : (j : Int) < n1 := by omega
          have HR : Hid (QRow wr g cap F) := row
          have HSG : Hid (seg F 0 k = P2 ++ seg E1 h1 (j - h1)) := hseg
          have hkc : k < cap := by have := CP.out; omega
          obtain ⟨y0, y1, y2, y3, y4⟩ := row.at_ k hkc
          have f0 := row.free (k * 5)
          have f1 := row.free (k * 5 + 1)
          have f2 := row.free (k * 5 + 2)
          have f3 := row.free (k * 5 + 3)
          have f4 := row.free (k * 5 + 4)
          have hgl := row.lt
          have hgn : ¬ g = wr.heap.size := by omega
          have HJ : Hid (k + h1 = j + (p2) ∧ h1 ≤ j) := ⟨hkj, hj0⟩
          clear row hseg hkj
          go_wp2_with fail
          go_roundw
          case rel =>
            have hkj := HJ.out
            have c1 : Ch (fun r _ => r = g) wr (wr.setCells g (k * 5) (qcells (E1 j))) := Ch.setCells g _ _ (Ch.refl _ wr) (fun _ _ _ => rfl)
            have hS : Below w.heap.size w (wr.setCells g (k * 5) (qcells (E1 j))) := hbel.trans (c1.below hbel.size (fun r _ hr e => by have : r = g := e; omega))
            refine ⟨k + 1, j + 1, upd F k (E1 j), by omega, by omega, by omega, rfl, by go_num, (HR.out.set hkc (E1 j)).below ((Below.refl _ _).alloc (Nat.le_refl _) _), ?_, hS.alloc hS.size _⟩
            rw [seg_upd, HSG.out, show j + 1 - h1 = (j - h1) + 1 by omega, seg_succ, List.append_assoc, show h1 + (j - h1) = j by omega]
          case measure => simp [intOf]; omega
        · have hjn' : n1 = j := by omega
          subst hjn'
          obtain ⟨P3, HP3⟩ : ∃ P3 : List Ev, Hid (P3 = P2 ++ seg E1 h1 (n1 - h1)) := ⟨_, rfl⟩
          obtain ⟨p3, HP3n⟩ : ∃ p3 : Nat, Hid (p3 = k) := ⟨_, rfl⟩
          have hpb3 : p3 + h1 = n1 + p2 := by have := HP3n.out; omega
          go_wp2_with fail
          have hrow := row
          have hb0 := hbel
          go_loopw [11, 14] (fun sl i wr => ∃ (k j : Nat) (F : Nat → Ev), 0 ≤ j ∧ j ≤ n2 ∧ k + 0 = j + (p3) ∧ sl = .slice (some ⟨g, 0, none⟩) k cap ∧ i = .int .i64 j ∧ QRow wr g cap F ∧ seg F 0 k = P3 ++ seg E2 0 (j - 0) ∧ Below w.heap.size w wr) (fun _ i _ => n2 - (intOf i).toNat)
          case atStart => exact ⟨k, 0, F, Nat.le_refl _, by omega, by have := HP3n.out; omega, rfl, by simp, row, by rw [HP3.out]; simpa [seg] using hseg, hbel⟩
          case round =>
            clear hrow hb0
            obtain ⟨k, j, F, hj0, hjn, hkj, rfl, rfl, row, hseg, hbel⟩ := hrel
            by_cases hj : j < n2
            · obtain ⟨b, o, rfl, hb, hq'⟩ := q2 (by omega)
              have qA := (hq' j hj).below hb hbel
              obtain ⟨z0, z1, z2, z3, z4⟩ := qA
              have hji : (j : Int) < n2 := by omega
              have HR : Hid (QRow wr g cap F) := row
              have HSG : Hid (seg F 0 k = P3 ++ seg E2 0 (j - 0)) := hseg
              have hkc : k < cap := by have := CP.out; omega
              obtain ⟨y0, y1, y2, y3, y4⟩ := row.at_ k hkc
              have f0 := row.free (k * 5)
              have f1 := row.free (k * 5 + 1)
              have f2 := row.free (k * 5 + 2)
              have f3 := row.free (k * 5 + 3)
              have f4 := row.free (k * 5 + 4)
              have hgl := row.lt
              have hgn : ¬ g = wr.heap.size := by omega
              have HJ : Hid (k + 0 = j + (p3) ∧ 0 ≤ j) := ⟨hkj, hj0⟩
              clear row hseg hkj
              go_wp2_with fail
              go_roundw
              case rel =>
                have hkj := HJ.out
                have c1 : Ch (fun r _ => r = g) wr (wr.setCells g (k * 5) (qcells (E2 j))) := Ch.setCells g _ _ (Ch.refl _ wr) (fun _ _ _ => rfl)
                have hS : Below w.heap.size w (wr.setCells g (k * 5) (qcells (E2 j))) := hbel.trans (c1.below hbel.size (fun r _ hr e => by have : r = g := e; omega))
                refine ⟨k + 1, j + 1, upd F k (E2 j), by omega, by omega, by omega, rfl, by go_num, (HR.out.set hkc (E2 j)).below ((Below.refl _ _).alloc (Nat.le_refl _) _), ?_, hS.alloc hS.size _⟩
                rw [seg_upd, HSG.out, show j + 1 - 0 = (j - 0) + 1 by omega, seg_succ, List.append_assoc, show 0 + (j - 0) = j by omega]
              case measure => simp [intOf]; omega
            · have hjn' : n2 = j := by omega
              subst hjn'
              have HK : Hid (n0 - h0 + (n1 - h1) + n2 = k) := by rw [Hid]; omega
              have HSE : Hid (seg F 0 k = P3 ++ seg E2 0 (n2 - 0)) := hseg
              go_wp2_with fail
              go_ret
              rw [HK.out]
              refine ⟨g, cap, F, rfl, hgB, row.less (by have := CP.out; have := HK.out; omega), ?_, hbel⟩
              rw [HSE.out, HP3.out, HP2.out, Nat.sub_zero]
end Go.Proofs.Qxb6613083a
