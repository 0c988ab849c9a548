/-
  WALK of b1SortByTime.
-/
import Derived.Test.Qxb6613083aG2
import Derived.Test.Qxb6613083aP2
namespace Go.Proofs.Qxb6613083a
open Go.RowKit Go.BigFrame

theorem QRow.copied {W : World} {x n : Nat} {F : Nat → Ev} (row : QRow W x n F) (E : Nat → Ev) : QRow (W.setCells x 0 (flat qcells n E)) x n E := by
  have hl := flat_len qcells 5 qcells_len E n
  have ht : W.there x 0 (flat qcells n E).length := fun j hj => by
    rw [hl] at hj
    have := row.there (k := j / 5) (by omega) (j % 5) (by omega)
    rwa [show j / 5 * 5 + j % 5 = 0 + j by omega] at this
  have hr := World.rangeAt_setCells_same W x 0 (flat qcells n E) ht
  have hc : Ch (fun _ _ => True) W (W.setCells x 0 (flat qcells n E)) := Ch.setCells x _ _ (Ch.refl _ W) (fun _ _ _ => trivial)
  refine ⟨Nat.lt_of_lt_of_le row.lt hc.size, fun i hi => QAt.of_range ?_, fun o => (hc.frozen x o row.lt).trans (row.free o)⟩
  have := cells_flat _ x 0 qcells 5 qcells_len E n hr i hi
  rwa [Nat.zero_add] at this

set_option maxHeartbeats 4000000 in
set_option maxRecDepth 100000 in
theorem sort_any (a : Option Addr) (n c : Nat) (E : Nat → Ev) (w : World) (hn : n ≤ 1048576) (hq : QSl w w.heap.size a n E) :
    Calls Try.prog 10 #[.slice a n c] w fun r w' => ∃ (g : Nat) (F : Nat → Ev), r = .returned (.slice (some ⟨g, 0, none⟩) n n) ∧ w.heap.size ≤ g ∧ QRow w' g n F ∧ (seg F 0 n).Perm (seg E 0 n) ∧ Srt F 0 n ∧ Below w.heap.size w w' := by
  have hmk := fun W => make23 n n (Nat.le_refl _) (by omega) W
  obtain ⟨i29, hi29, hz0, hz1, hz2⟩ := info_parts info29
  have hb0 : Below w.heap.size w (w.alloc (madeQ n)) := (Below.refl _ _).alloc (Nat.le_refl _) _
  have row0 := madeQ_row w n
  obtain ⟨x, hx⟩ : ∃ x, w.heap.size = x := ⟨_, rfl⟩
  go_enter Try.func10, Try.ntmps10
  go_upto_region 3 with fail
  generalize w.alloc (madeQ n) = W1 at *
  rw [hx] at row0
  have hqW := hq.below hb0
  have hsrc : 0 < (flat qcells n E).length → ∃ ad, a = some ad ∧ ∀ j v, (flat qcells n E)[j]? = some v → W1.cell? (ad.add j) = some v := fun hl => by
    rw [flat_len qcells 5 qcells_len] at hl
    obtain ⟨b, o, rfl, hb, hq'⟩ := hqW (by omega)
    exact ⟨_, rfl, fun j v hv => by have h := flat_cells W1 b o qcells 5 qcells_len (by omega) E n (fun i hi => (hq' i hi).range) j v hv; rw [Addr.add_lit]; exact h⟩
  have HSRC : Hid _ := hsrc
  have HC : Hid (∀ j, j < (flat qcells n E).length → (W1.cell? ⟨x, 0 + j, none⟩).isSome = true) := fun j hj => by
    rw [flat_len qcells 5 qcells_len] at hj
    have := (row0.there (k := j / 5) (by omega) (j % 5) (by omega)).1
    rwa [show j / 5 * 5 + j % 5 = 0 + j by omega] at this
  have HF : Hid (∀ j, j < (flat qcells n E).length → W1.frozen? ⟨x, 0 + j, none⟩ = false) := fun j _ => row0.free _
  clear hsrc
  go_wp2_with ((with_reducible show wpList _ _ _ ({ dst := _, op := Op.call { callee := Callee.builtin Builtin.copy, args := _, argTypes := _ }, type := _, pos := _, after := _, guard := _ } :: _) _ _); refine wpList_copy_size rfl (.tmp 17) (.tmp 18) 23 23 (by rfl) 29 i29 x 0 n n a n c (flat qcells n E) (by rfl) (by rfl) Try.underlying23 hi29 n 5 (Nat.min_self n) hz1 (flat_len qcells 5 qcells_len E n) HSRC.out HC.out HF.out (flat_one qcells qcells_one n E) ?_)
  have row1 := row0.copied E
  have hc1 : Ch (fun r _ => r = x) W1 (W1.setCells x 0 (flat qcells n E)) := Ch.setCells x _ _ (Ch.refl _ W1) (fun _ _ _ => rfl)
  have hb1 : Below w.heap.size w (W1.setCells x 0 (flat qcells n E)) := hb0.trans (hc1.below hb0.size (fun r _ hr e => by have : r = x := e; omega))
  generalize W1.setCells x 0 (flat qcells n E) = W2 at *
  have rowy := madeQ_row W2 n
  have hb2 := hb1.alloc hb1.size (madeQ n)
  have row2 : QRow (W2.alloc (madeQ n)) x n E := row1.below ((Below.refl _ _).alloc (Nat.le_refl _) _)
  have hxl := row1.lt
  obtain ⟨y, hy⟩ : ∃ y, W2.heap.size = y := ⟨_, rfl⟩
  have hsz := hb1.size
  rw [hy] at rowy hxl hsz ⊢
  generalize W2.alloc (madeQ n) = W3 at *
  clear row1 hc1 hb1 hy HSRC HC HF row0 hb0 hqW hq hmk
  go_loopw [4, 5, 6] (fun sa sb sw wr => ∃ (xa ya wd : Nat) (A B : Nat → Ev), sa = .slice (some ⟨xa, 0, none⟩) n n ∧ sb = .slice (some ⟨ya, 0, none⟩) n n ∧ sw = .int .i64 wd ∧ 1 ≤ wd ∧ wd ≤ 2 * n + 2 ∧ xa ≠ ya ∧ w.heap.size ≤ xa ∧ w.heap.size ≤ ya ∧ SB A wd n ∧ (seg A 0 n).Perm (seg E 0 n) ∧ QRow wr xa n A ∧ QRow wr ya n B ∧ Below w.heap.size w wr) (fun _ _ sw _ => n - (intOf sw).toNat)
  case atStart => exact ⟨x, y, 1, E, fun _ => ev0, rfl, rfl, rfl, by omega, by omega, by omega, by omega, by omega, SB.one E n, List.Perm.refl _, row2, rowy, hb2⟩
  case round =>
    clear row2 rowy hb2
    obtain ⟨xa, ya, wd, A, B, rfl, rfl, rfl, hw1, hw2, hxy, hxB, hyB, hsb0, hpm0, rowA, rowB, hbel⟩ := hrel
    have hsb : Hid (SB A wd n) := hsb0
    have hpm : Hid ((seg A 0 n).Perm (seg E 0 n)) := hpm0
    clear hsb0 hpm0
    by_cases hwn : wd < n
    · go_wp2_with fail
      go_loopw [7] (fun sl wr => ∃ (lo m : Nat) (B1 : Nat → Ev), sl = .int .i64 lo ∧ lo = m * (2 * wd) ∧ lo ≤ n + 2 * wd ∧ SBk B1 (2 * wd) m n ∧ (seg B1 0 (min lo n)).Perm (seg A 0 (min lo n)) ∧ QRow wr xa n A ∧ QRow wr ya n B1 ∧ Below w.heap.size w wr) (fun sl _ => n - (intOf sl).toNat)
      case atStart => exact ⟨0, 0, B, rfl, by omega, by omega, fun q h => by omega, by simp [seg_zero], rowA, rowB, hbel⟩
      case round =>
        clear rowA rowB hbel
        obtain ⟨lo, m, B1, rfl, hlo, hlob, hsk, hpm1, rowA, rowB, hbel⟩ := hrel
        have HLO : Hid (lo = m * (2 * wd)) := hlo
        clear hlo
        by_cases hlon : lo < n
        · obtain ⟨mid, hmid⟩ : ∃ mid : Nat, Hid (mid = min (lo + wd) n) := ⟨_, rfl⟩
          obtain ⟨hi, hhi⟩ : ∃ hi : Nat, Hid (hi = min (lo + 2 * wd) n) := ⟨_, rfl⟩
          have hm0 := hmid.out
          have hh0 := hhi.out
          have hlm : lo ≤ mid := by omega
          have hmh : mid ≤ hi := by omega
          have hhn : hi ≤ n := by omega
          have hlf : Hid (∀ v, lo ≤ v → v + 1 < mid → bef (A (v + 1)) (A v) = false) := hsb.out.left HLO.out (by omega) (by omega)
          have hrt : Hid (∀ v, mid ≤ v → v + 1 < hi → bef (A (v + 1)) (A v) = false) := hsb.out.right HLO.out (by omega) (by omega) (by omega)
          clear hm0 hh0
          go_upto_if 39 with fail
          go_cut [8] (fun v wx => v = .int .i64 mid ∧ wx = wr)
          case first =>
            by_cases hc : lo + wd ≤ n
            · have e : Hid ((mid : Int) = (lo : Int) + (wd : Int)) := by have := hmid.out; rw [Hid]; omega
              go_wp2
              go_meet
              exact ⟨by rw [e.out], rfl⟩
            · have e : Hid (mid = n) := by have := hmid.out; rw [Hid]; omega
              go_wp2
              go_meet
              exact ⟨by rw [e.out], rfl⟩
          case rest =>
            obtain ⟨rfl, hw⟩ := hcut
            have hw' := hw.symm
            subst hw'
            clear hw
            go_upto_if 47 with fail
            go_cut [9] (fun v wx => v = .int .i64 hi ∧ wx = wr)
            case first =>
              by_cases hc : lo + 2 * wd ≤ n
              · have e : Hid ((hi : Int) = (lo : Int) + 2 * (wd : Int)) := by have := hhi.out; rw [Hid]; omega
                go_wp2
                go_meet
                exact ⟨by rw [e.out], rfl⟩
              · have e : Hid (hi = n) := by have := hhi.out; rw [Hid]; omega
                go_wp2
                go_meet
                exact ⟨by rw [e.out], rfl⟩
            case rest =>
              obtain ⟨rfl, hw⟩ := hcut
              have hw' := hw.symm
              subst hw'
              clear hw
              go_wp2_with fail
              go_loopw [10, 11, 12] (fun si sj sk wr => ∃ (i j k : Nat) (B2 : Nat → Ev), si = .int .i64 i ∧ sj = .int .i64 j ∧ sk = .int .i64 k ∧ MI A B2 lo mid hi i j k ∧ (∀ z, z < lo → B2 z = B1 z) ∧ QRow wr xa n A ∧ QRow wr ya n B2 ∧ Below w.heap.size w wr) (fun si sj _ _ => (mid - (intOf si).toNat) + (hi - (intOf sj).toNat))
              case atStart => exact ⟨lo, mid, lo, B1, rfl, rfl, rfl, MI.start A B1 hlm hmh, fun _ _ => rfl, rowA, rowB, hbel⟩
              case round =>
                clear rowA rowB hbel
                obtain ⟨i, j, k, B2, rfl, rfl, rfl, hmi, hkeep, rowA, rowB, hbel⟩ := hrel
                have hk2 := hmi.kk
                have hli := hmi.li
                have hmj := hmi.mj
                have hjh2 := hmi.jh
                have him2 := hmi.im
                by_cases him : i < mid
                · have hd1 : decide ((i : Int) < mid) = true := decide_eq_true (by omega)
                  by_cases hjh : j < hi
                  · have hd2 : decide ((j : Int) < hi) = true := decide_eq_true (by omega)
                    have HK : Hid (∀ z, z < lo → B2 z = B1 z) := hkeep
                    have qi : ∀ v : BW wr, QAt v.v xa (i * 5) (A i) := (rowA.at_ i (by omega)).bw
                    have qj : ∀ v : BW wr, QAt v.v xa (j * 5) (A j) := (rowA.at_ j (by omega)).bw
                    have hin : (i : Int) < n := by omega
                    have hjn : (j : Int) < n := by omega
                    cases hbb : bef (A j) (A i) with
                    | true =>
                      have HMI : Hid (MI A (upd B2 k (A j)) lo mid hi i (j + 1) (k + 1)) := hmi.stepJ hjh (hrt.out j hmi.mj) (fun _ => bef_asymm hbb)
                      have C1 : Hid (∀ v : BW wr, Calls Try.prog 35 #[.agg #[.int .u64 ((A j)).hi, .int .u64 ((A j)).lo, .int .u64 ((A j)).ord, .int .u8 ((A j)).kind, .int .i64 ((A j)).user], .agg #[.int .u64 ((A i)).hi, .int .u64 ((A i)).lo, .int .u64 ((A i)).ord, .int .u8 ((A i)).kind, .int .i64 ((A i)).user]] v.v fun e w'' => e = .returned (.bool true) ∧ ∃ y : BW wr, w'' = y.v) := before_bw hbb
                      clear hkeep hmi
                      go_upto_region 21 with fail
                      refine wp_region_bw (by kernel_rfl) (by kernel_rfl) ?_
                      repeat (go_big_quiet_step (with_reducible exact C1.out _))
                      refine wpQuiet_nil ?_
                      rintro w1 ⟨⟨wz, hb1⟩, hwz⟩
                      have hwz' : w1 = wz := hwz
                      subst hwz'
                      clear hwz
                      clear qi qj C1
                      have rowA := rowA.below hb1
                      have rowB := rowB.below hb1
                      have hbel := hbel.trans (hb1.mono hbel.size)
                      clear hb1
                      have qA := rowA.at_ j (by omega)
                      obtain ⟨z0, z1, z2, z3, z4⟩ := qA
                      obtain ⟨y0, y1, y2, y3, y4⟩ := rowB.at_ k (by omega)
                      have f0 := rowB.free (k * 5)
                      have f1 := rowB.free (k * 5 + 1)
                      have f2 := rowB.free (k * 5 + 2)
                      have f3 := rowB.free (k * 5 + 3)
                      have f4 := rowB.free (k * 5 + 4)
                      have HA : Hid (QRow w1 xa n A) := rowA
                      have HB : Hid (QRow w1 ya n B2) := rowB
                      have HBel : Hid (Below w.heap.size w w1) := hbel
                      have hpi : (j : Int) < n := by omega
                      have hki : (k : Int) < n := by omega
                      clear rowA rowB
                      go_wp2_with fail
                      go_roundw
                      case rel =>
                        have c1 : Ch (fun r _ => r = ya) w1 (w1.setCells ya (k * 5) (qcells (A j))) := Ch.setCells ya _ _ (Ch.refl _ w1) (fun _ _ _ => rfl)
                        have hS : Below w.heap.size w (w1.setCells ya (k * 5) (qcells (A j))) := HBel.out.trans (c1.below HBel.out.size (fun r _ hr e => by have : r = ya := e; omega))
                        exact ⟨i, j + 1, k + 1, upd B2 k (A j), by go_num, by go_num, by go_num, HMI.out, fun z hz => by rw [upd_ne B2 k _ (by have := HMI.out.li; have := HMI.out.mj; have := HMI.out.kk; omega)]; exact HK.out z hz, HA.out.ch c1 (fun _ e => hxy e), HB.out.set (by omega) (A j), hS⟩
                      case measure => simp [intOf]; omega
                    | false =>
                      have HMI : Hid (MI A (upd B2 k (A i)) lo mid hi (i + 1) j (k + 1)) := hmi.stepI him (hlf.out i hmi.li) (fun _ => hbb)
                      have C1 : Hid (∀ v : BW wr, Calls Try.prog 35 #[.agg #[.int .u64 ((A j)).hi, .int .u64 ((A j)).lo, .int .u64 ((A j)).ord, .int .u8 ((A j)).kind, .int .i64 ((A j)).user], .agg #[.int .u64 ((A i)).hi, .int .u64 ((A i)).lo, .int .u64 ((A i)).ord, .int .u8 ((A i)).kind, .int .i64 ((A i)).user]] v.v fun e w'' => e = .returned (.bool false) ∧ ∃ y : BW wr, w'' = y.v) := before_bw hbb
                      clear hkeep hmi
                      go_upto_region 21 with fail
                      refine wp_region_bw (by kernel_rfl) (by kernel_rfl) ?_
                      repeat (go_big_quiet_step (with_reducible exact C1.out _))
                      refine wpQuiet_nil ?_
                      rintro w1 ⟨⟨wz, hb1⟩, hwz⟩
                      have hwz' : w1 = wz := hwz
                      subst hwz'
                      clear hwz
                      clear qi qj C1
                      have rowA := rowA.below hb1
                      have rowB := rowB.below hb1
                      have hbel := hbel.trans (hb1.mono hbel.size)
                      clear hb1
                      have qA := rowA.at_ i (by omega)
                      obtain ⟨z0, z1, z2, z3, z4⟩ := qA
                      obtain ⟨y0, y1, y2, y3, y4⟩ := rowB.at_ k (by omega)
                      have f0 := rowB.free (k * 5)
                      have f1 := rowB.free (k * 5 + 1)
                      have f2 := rowB.free (k * 5 + 2)
                      have f3 := rowB.free (k * 5 + 3)
                      have f4 := rowB.free (k * 5 + 4)
                      have HA : Hid (QRow w1 xa n A) := rowA
                      have HB : Hid (QRow w1 ya n B2) := rowB
                      have HBel : Hid (Below w.heap.size w w1) := hbel
                      have hpi : (i : Int) < n := by omega
                      have hki : (k : Int) < n := by omega
                      clear rowA rowB
                      go_wp2_with fail
                      go_roundw
                      case rel =>
                        have c1 : Ch (fun r _ => r = ya) w1 (w1.setCells ya (k * 5) (qcells (A i))) := Ch.setCells ya _ _ (Ch.refl _ w1) (fun _ _ _ => rfl)
                        have hS : Below w.heap.size w (w1.setCells ya (k * 5) (qcells (A i))) := HBel.out.trans (c1.below HBel.out.size (fun r _ hr e => by have : r = ya := e; omega))
                        exact ⟨i + 1, j, k + 1, upd B2 k (A i), by go_num, by go_num, by go_num, HMI.out, fun z hz => by rw [upd_ne B2 k _ (by have := HMI.out.li; have := HMI.out.mj; have := HMI.out.kk; omega)]; exact HK.out z hz, HA.out.ch c1 (fun _ e => hxy e), HB.out.set (by omega) (A i), hS⟩
                      case measure => simp [intOf]; omega
                  · have hd2 : decide ((j : Int) < hi) = false := decide_eq_false (by omega)
                    go_wp2_with fail
                    go_loopw [10, 12] (fun si sk wr => ∃ (i k : Nat) (B2 : Nat → Ev), si = .int .i64 i ∧ sk = .int .i64 k ∧ MI A B2 lo mid hi i j k ∧ (i < mid → j = hi) ∧ (∀ z, z < lo → B2 z = B1 z) ∧ QRow wr xa n A ∧ QRow wr ya n B2 ∧ Below w.heap.size w wr) (fun si _ _ => mid - (intOf si).toNat)
                    case atStart => exact ⟨i, k, B2, rfl, rfl, hmi, fun h => by have := hmi.jh; omega, hkeep, rowA, rowB, hbel⟩
                    case round =>
                      clear rowA rowB hbel hmi hkeep hk2 hli hmj hjh2 him2 him hd1
                      obtain ⟨i, k, B2, rfl, rfl, hmi, hij4, hkeep, rowA, rowB, hbel⟩ := hrel
                      have hk2 := hmi.kk
                      have hli := hmi.li
                      have hmj := hmi.mj
                      have hjh2 := hmi.jh
                      by_cases him : i < mid
                      · have hj4 := hij4 him
                        have HMI : Hid (MI A (upd B2 k (A i)) lo mid hi (i + 1) j (k + 1)) := hmi.stepI him (hlf.out i hmi.li) (fun h => by omega)
                        have HK : Hid (∀ z, z < lo → B2 z = B1 z) := hkeep
                        clear hkeep hmi
                        have qA := rowA.at_ i (by omega)
                        obtain ⟨z0, z1, z2, z3, z4⟩ := qA
                        obtain ⟨y0, y1, y2, y3, y4⟩ := rowB.at_ k (by omega)
                        have f0 := rowB.free (k * 5)
                        have f1 := rowB.free (k * 5 + 1)
                        have f2 := rowB.free (k * 5 + 2)
                        have f3 := rowB.free (k * 5 + 3)
                        have f4 := rowB.free (k * 5 + 4)
                        have HA : Hid (QRow wr xa n A) := rowA
                        have HB : Hid (QRow wr ya n B2) := rowB
                        have HBel : Hid (Below w.heap.size w wr) := hbel
                        have hpi : (i : Int) < n := by omega
                        have hki : (k : Int) < n := by omega
                        clear rowA rowB
                        go_wp2_with fail
                        go_roundw
                        case rel =>
                          have c1 : Ch (fun r _ => r = ya) wr (wr.setCells ya (k * 5) (qcells (A i))) := Ch.setCells ya _ _ (Ch.refl _ wr) (fun _ _ _ => rfl)
                          have hS : Below w.heap.size w (wr.setCells ya (k * 5) (qcells (A i))) := HBel.out.trans (c1.below HBel.out.size (fun r _ hr e => by have : r = ya := e; omega))
                          exact ⟨i + 1, k + 1, upd B2 k (A i), by go_num, by go_num, HMI.out, (fun _ => hj4), fun z hz => by rw [upd_ne B2 k _ (by have := HMI.out.li; have := HMI.out.mj; have := HMI.out.kk; omega)]; exact HK.out z hz, HA.out.ch c1 (fun _ e => hxy e), HB.out.set (by omega) (A i), hS⟩
                        case measure => simp [intOf]; omega
                      · have him' := hmi.im
                        go_wp2_with fail
                        have him2 : i = mid := by omega
                        subst him2
                        go_loopw [11, 12] (fun sj sk wr => ∃ (j k : Nat) (B2 : Nat → Ev), sj = .int .i64 j ∧ sk = .int .i64 k ∧ MI A B2 lo i hi i j k ∧ (∀ z, z < lo → B2 z = B1 z) ∧ QRow wr xa n A ∧ QRow wr ya n B2 ∧ Below w.heap.size w wr) (fun sj _ _ => hi - (intOf sj).toNat)
                        case atStart => exact ⟨j, k, B2, rfl, rfl, hmi, hkeep, rowA, rowB, hbel⟩
                        case round =>
                          clear rowA rowB hbel hmi hkeep hij4 hk2 hmj hjh2
                          obtain ⟨j, k, B2, rfl, rfl, hmi, hkeep, rowA, rowB, hbel⟩ := hrel
                          have hk2 := hmi.kk
                          have hli := hmi.li
                          have hmj := hmi.mj
                          by_cases hjh : j < hi
                          · have HMI : Hid (MI A (upd B2 k (A j)) lo i hi i (j + 1) (k + 1)) := hmi.stepJ hjh (hrt.out j hmi.mj) (fun h => by omega)
                            have HK : Hid (∀ z, z < lo → B2 z = B1 z) := hkeep
                            clear hkeep hmi
                            have qA := rowA.at_ j (by omega)
                            obtain ⟨z0, z1, z2, z3, z4⟩ := qA
                            obtain ⟨y0, y1, y2, y3, y4⟩ := rowB.at_ k (by omega)
                            have f0 := rowB.free (k * 5)
                            have f1 := rowB.free (k * 5 + 1)
                            have f2 := rowB.free (k * 5 + 2)
                            have f3 := rowB.free (k * 5 + 3)
                            have f4 := rowB.free (k * 5 + 4)
                            have HA : Hid (QRow wr xa n A) := rowA
                            have HB : Hid (QRow wr ya n B2) := rowB
                            have HBel : Hid (Below w.heap.size w wr) := hbel
                            have hpi : (j : Int) < n := by omega
                            have hki : (k : Int) < n := by omega
                            clear rowA rowB
                            go_wp2_with fail
                            go_roundw
                            case rel =>
                              have c1 : Ch (fun r _ => r = ya) wr (wr.setCells ya (k * 5) (qcells (A j))) := Ch.setCells ya _ _ (Ch.refl _ wr) (fun _ _ _ => rfl)
                              have hS : Below w.heap.size w (wr.setCells ya (k * 5) (qcells (A j))) := HBel.out.trans (c1.below HBel.out.size (fun r _ hr e => by have : r = ya := e; omega))
                              exact ⟨j + 1, k + 1, upd B2 k (A j), by go_num, by go_num, HMI.out, fun z hz => by rw [upd_ne B2 k _ (by have := HMI.out.li; have := HMI.out.mj; have := HMI.out.kk; omega)]; exact HK.out z hz, HA.out.ch c1 (fun _ e => hxy e), HB.out.set (by omega) (A j), hS⟩
                            case measure => simp [intOf]; omega
                          · have hij : hi = j := by have := hmi.jh; omega
                            subst hij
                            obtain ⟨hk5, hpm5, hst⟩ := hmi.done
                            have hk5' := hk5.symm
                            subst hk5'
                            have HPM5 : Hid _ := hpm5
                            have HST : Hid _ := hst
                            have HKP : Hid _ := hkeep
                            have HSK : Hid _ := hsk
                            have HPM1 : Hid _ := hpm1
                            clear hpm5 hst hkeep hsk hpm1 hmi
                            go_wp2_with fail
                            go_roundw
                            case rel =>
                              have hh := hhi.out
                              refine ⟨lo + 2 * wd, m + 1, B2, by go_num, by have h := HLO.out; have e : (m + 1) * (2 * wd) = m * (2 * wd) + 2 * wd := Nat.succ_mul m (2 * wd); omega, by omega, SBk.more HSK.out HLO.out (by omega) HKP.out HST.out, ?_, rowA, rowB, hbel⟩
                              rw [← hh]
                              have h1 := HPM1.out
                              rw [Nat.min_eq_left (by omega)] at h1
                              exact perm_more h1 HKP.out (by omega) HPM5.out
                            case measure => simp [intOf]; omega
                · have hd1 : decide ((i : Int) < mid) = false := decide_eq_false (by omega)
                  go_wp2_with fail
                  go_loopw [10, 12] (fun si sk wr => ∃ (i k : Nat) (B2 : Nat → Ev), si = .int .i64 i ∧ sk = .int .i64 k ∧ MI A B2 lo mid hi i j k ∧ (i < mid → j = hi) ∧ (∀ z, z < lo → B2 z = B1 z) ∧ QRow wr xa n A ∧ QRow wr ya n B2 ∧ Below w.heap.size w wr) (fun si _ _ => mid - (intOf si).toNat)
                  case atStart => exact ⟨i, k, B2, rfl, rfl, hmi, fun h => by have := hmi.jh; omega, hkeep, rowA, rowB, hbel⟩
                  case round =>
                    clear rowA rowB hbel hmi hkeep hk2 hli hmj hjh2 him2 him hd1
                    obtain ⟨i, k, B2, rfl, rfl, hmi, hij4, hkeep, rowA, rowB, hbel⟩ := hrel
                    have hk2 := hmi.kk
                    have hli := hmi.li
                    have hmj := hmi.mj
                    have hjh2 := hmi.jh
                    by_cases him : i < mid
                    · have hj4 := hij4 him
                      have HMI : Hid (MI A (upd B2 k (A i)) lo mid hi (i + 1) j (k + 1)) := hmi.stepI him (hlf.out i hmi.li) (fun h => by omega)
                      have HK : Hid (∀ z, z < lo → B2 z = B1 z) := hkeep
                      clear hkeep hmi
                      have qA := rowA.at_ i (by omega)
                      obtain ⟨z0, z1, z2, z3, z4⟩ := qA
                      obtain ⟨y0, y1, y2, y3, y4⟩ := rowB.at_ k (by omega)
                      have f0 := rowB.free (k * 5)
                      have f1 := rowB.free (k * 5 + 1)
                      have f2 := rowB.free (k * 5 + 2)
                      have f3 := rowB.free (k * 5 + 3)
                      have f4 := rowB.free (k * 5 + 4)
                      have HA : Hid (QRow wr xa n A) := rowA
                      have HB : Hid (QRow wr ya n B2) := rowB
                      have HBel : Hid (Below w.heap.size w wr) := hbel
                      have hpi : (i : Int) < n := by omega
                      have hki : (k : Int) < n := by omega
                      clear rowA rowB
                      go_wp2_with fail
                      go_roundw
                      case rel =>
                        have c1 : Ch (fun r _ => r = ya) wr (wr.setCells ya (k * 5) (qcells (A i))) := Ch.setCells ya _ _ (Ch.refl _ wr) (fun _ _ _ => rfl)
                        have hS : Below w.heap.size w (wr.setCells ya (k * 5) (qcells (A i))) := HBel.out.trans (c1.below HBel.out.size (fun r _ hr e => by have : r = ya := e; omega))
                        exact ⟨i + 1, k + 1, upd B2 k (A i), by go_num, by go_num, HMI.out, (fun _ => hj4), fun z hz => by rw [upd_ne B2 k _ (by have := HMI.out.li; have := HMI.out.mj; have := HMI.out.kk; omega)]; exact HK.out z hz, HA.out.ch c1 (fun _ e => hxy e), HB.out.set (by omega) (A i), hS⟩
                      case measure => simp [intOf]; omega
                    · have him' := hmi.im
                      go_wp2_with fail
                      have him2 : i = mid := by omega
                      subst him2
                      go_loopw [11, 12] (fun sj sk wr => ∃ (j k : Nat) (B2 : Nat → Ev), sj = .int .i64 j ∧ sk = .int .i64 k ∧ MI A B2 lo i hi i j k ∧ (∀ z, z < lo → B2 z = B1 z) ∧ QRow wr xa n A ∧ QRow wr ya n B2 ∧ Below w.heap.size w wr) (fun sj _ _ => hi - (intOf sj).toNat)
                      case atStart => exact ⟨j, k, B2, rfl, rfl, hmi, hkeep, rowA, rowB, hbel⟩
                      case round =>
                        clear rowA rowB hbel hmi hkeep hij4 hk2 hmj hjh2
                        obtain ⟨j, k, B2, rfl, rfl, hmi, hkeep, rowA, rowB, hbel⟩ := hrel
                        have hk2 := hmi.kk
                        have hli := hmi.li
                        have hmj := hmi.mj
                        by_cases hjh : j < hi
                        · have HMI : Hid (MI A (upd B2 k (A j)) lo i hi i (j + 1) (k + 1)) := hmi.stepJ hjh (hrt.out j hmi.mj) (fun h => by omega)
                          have HK : Hid (∀ z, z < lo → B2 z = B1 z) := hkeep
                          clear hkeep hmi
                          have qA := rowA.at_ j (by omega)
                          obtain ⟨z0, z1, z2, z3, z4⟩ := qA
                          obtain ⟨y0, y1, y2, y3, y4⟩ := rowB.at_ k (by omega)
                          have f0 := rowB.free (k * 5)
                          have f1 := rowB.free (k * 5 + 1)
                          have f2 := rowB.free (k * 5 + 2)
                          have f3 := rowB.free (k * 5 + 3)
                          have f4 := rowB.free (k * 5 + 4)
                          have HA : Hid (QRow wr xa n A) := rowA
                          have HB : Hid (QRow wr ya n B2) := rowB
                          have HBel : Hid (Below w.heap.size w wr) := hbel
                          have hpi : (j : Int) < n := by omega
                          have hki : (k : Int) < n := by omega
                          clear rowA rowB
                          go_wp2_with fail
                          go_roundw
                          case rel =>
                            have c1 : Ch (fun r _ => r = ya) wr (wr.setCells ya (k * 5) (qcells (A j))) := Ch.setCells ya _ _ (Ch.refl _ wr) (fun _ _ _ => rfl)
                            have hS : Below w.heap.size w (wr.setCells ya (k * 5) (qcells (A j))) := HBel.out.trans (c1.below HBel.out.size (fun r _ hr e => by have : r = ya := e; omega))
                            exact ⟨j + 1, k + 1, upd B2 k (A j), by go_num, by go_num, HMI.out, fun z hz => by rw [upd_ne B2 k _ (by have := HMI.out.li; have := HMI.out.mj; have := HMI.out.kk; omega)]; exact HK.out z hz, HA.out.ch c1 (fun _ e => hxy e), HB.out.set (by omega) (A j), hS⟩
                          case measure => simp [intOf]; omega
                        · have hij : hi = j := by have := hmi.jh; omega
                          subst hij
                          obtain ⟨hk5, hpm5, hst⟩ := hmi.done
                          have hk5' := hk5.symm
                          subst hk5'
                          have HPM5 : Hid _ := hpm5
                          have HST : Hid _ := hst
                          have HKP : Hid _ := hkeep
                          have HSK : Hid _ := hsk
                          have HPM1 : Hid _ := hpm1
                          clear hpm5 hst hkeep hsk hpm1 hmi
                          go_wp2_with fail
                          go_roundw
                          case rel =>
                            have hh := hhi.out
                            refine ⟨lo + 2 * wd, m + 1, B2, by go_num, by have h := HLO.out; have e : (m + 1) * (2 * wd) = m * (2 * wd) + 2 * wd := Nat.succ_mul m (2 * wd); omega, by omega, SBk.more HSK.out HLO.out (by omega) HKP.out HST.out, ?_, rowA, rowB, hbel⟩
                            rw [← hh]
                            have h1 := HPM1.out
                            rw [Nat.min_eq_left (by omega)] at h1
                            exact perm_more h1 HKP.out (by omega) HPM5.out
                          case measure => simp [intOf]; omega
        · have HSK : Hid _ := hsk
          have HPM1 : Hid _ := hpm1
          clear hsk hpm1
          go_wp2_with fail
          go_roundw
          case rel =>
            have h1 := HPM1.out
            rw [Nat.min_eq_right (by omega)] at h1
            refine ⟨ya, xa, wd * 2, B1, A, rfl, rfl, by go_num, by omega, by omega, hxy.symm, hyB, hxB, ?_, h1.trans hpm.out, rowB, rowA, hbel⟩
            rw [Nat.mul_comm]
            exact SBk.all HSK.out (by rw [← HLO.out]; omega)
          case measure => simp [intOf]; omega
    · have HS : Hid (Srt A 0 n) := hsb.out.all (by omega)
      go_wp2_with fail
      go_ret
      exact ⟨xa, A, rfl, hxB, rowA, hpm.out, HS.out, hbel⟩
end Go.Proofs.Qxb6613083a
