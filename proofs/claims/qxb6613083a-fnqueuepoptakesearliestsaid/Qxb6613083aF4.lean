/-
  WALK of queue.pop, ZZqueuePop.
-/
import Derived.Test.Qxb6613083aF3
namespace Go.Proofs.Qxb6613083a
open Go.RowKit Go.BigFrame

theorem LnAt.bw {w : World} {lb lo : Nat} {v : Value} {h : Int} (l : LnAt w lb lo v h) (x : BW w) : LnAt x.v lb lo v h := l.below x.h
/-- len and first of a line that is as it should be -/
theorem lenOK {w : World} {qb lo : Nat} {L : Ln} (s : LnOK w qb lo L) : Calls Try.prog 40 #[.pointer (some ⟨qb, lo, none⟩)] w fun r w' => r = .returned (.int .i64 ((L.n - L.h : Nat) : Int)) ∧ Below w.heap.size w w' :=
  (len_any qb lo L.a L.n L.c L.h w s.nb s.hle s.at_).mono fun _ _ ⟨he, k, hk⟩ => ⟨he, by rw [hk]; exact below_drewN (Below.refl _ _) k⟩
theorem firstNil {w : World} {qb lo : Nat} {L : Ln} (s : LnOK w qb lo L) (h : L.h = L.n) : Calls Try.prog 41 #[.pointer (some ⟨qb, lo, none⟩)] w fun r w' => r = .returned (.pointer none) ∧ Below w.heap.size w w' :=
  (first_nil qb lo L.a L.n L.c w s.nb (by have := s.at_; rwa [h] at this)).mono fun _ _ ⟨he, k, hk⟩ => ⟨he, by rw [hk]; exact below_drewN (Below.refl _ _) k⟩
theorem firstSome {w : World} {qb lo : Nat} {L : Ln} (s : LnOK w qb lo L) (h : L.h < L.n) : Calls Try.prog 41 #[.pointer (some ⟨qb, lo, none⟩)] w fun r w' => r = .returned (.pointer (some ⟨L.b, L.h * 7, none⟩)) ∧ Below w.heap.size w w' :=
  (first_some qb lo L.b 0 L.n L.c L.h w s.nb h (s.st h).at_).mono fun _ _ ⟨he, k, hk⟩ => ⟨by rw [he, Nat.zero_add], by rw [hk]; exact below_drewN (Below.refl _ _) k⟩

set_option maxHeartbeats 2000000 in
set_option maxRecDepth 100000 in
theorem qpop_any (B qb : Nat) (dl : Int) (s : Qs) (w : World) (hq : QSt w B qb dl s) (hB : B ≤ w.heap.size) (hne : s.l0.h < s.l0.n ∨ s.l1.h < s.l1.n ∨ 0 < s.tm.n) :
    Calls Try.prog 38 #[.pointer (some ⟨qb, 0, none⟩)] w fun r w' => ∃ s' e, r = .returned (.agg #[.int .u64 e.hi, .int .u64 e.lo, .int .u64 e.ord, .int .u8 e.kind, .int .i64 e.user, .pointer none, .pointer none]) ∧ QSt w' B qb dl s' ∧ Step s s' e ∧ Below B w w' ∧ Ch (qS qb s) w w' := by
  obtain ⟨lo, L, hlo, hL, hLt, hFin, hLeast, hNe⟩ := pickLine hq hB
  have HFin : Hid _ := hFin
  have HLeast : Hid _ := hLeast
  have HNe : Hid _ := hNe
  clear hFin hLeast hNe
  obtain ⟨r0, hr0⟩ : ∃ r0, w.heap.size = r0 := ⟨_, rfl⟩
  have hbel : Below w.heap.size w (w.alloc (.cells #[.int .u64 ev0.hi, .int .u64 ev0.lo, .int .u64 ev0.ord, .int .u8 ev0.kind, .int .i64 ev0.user, .pointer none, .pointer none] 41)) := (Below.refl _ _).alloc (Nat.le_refl _) _
  have one0 : One (w.alloc (.cells #[.int .u64 ev0.hi, .int .u64 ev0.lo, .int .u64 ev0.ord, .int .u8 ev0.kind, .int .i64 ev0.user, .pointer none, .pointer none] 41)) r0 ev0 := by rw [← hr0]; exact One.new w ev0
  have hs0 : (w.alloc (.cells #[.int .u64 ev0.hi, .int .u64 ev0.lo, .int .u64 ev0.ord, .int .u8 ev0.kind, .int .i64 ev0.user, .pointer none, .pointer none] 41)).heap.size = r0 + 1 := by simp [hr0]
  go_enter Try.func38, Try.ntmps38
  go_upto_region 2 with fail
  change Code.wp _ _ _ _ (w.alloc (.cells #[.int .u64 ev0.hi, .int .u64 ev0.lo, .int .u64 ev0.ord, .int .u8 ev0.kind, .int .i64 ev0.user, .pointer none, .pointer none] 41))
  generalize w.alloc (.cells #[.int .u64 ev0.hi, .int .u64 ev0.lo, .int .u64 ev0.ord, .int .u8 ev0.kind, .int .i64 ev0.user, .pointer none, .pointer none] 41) = W0 at *
  have hqW := hq.below hbel
  have q0 := hqW.q0
  have q1 := hqW.q1
  obtain ⟨p1, hp1⟩ : ∃ p1 : Option Addr, p1 = if s.l1.h < s.l1.n then some ⟨s.l1.b, s.l1.h * 7, none⟩ else none := ⟨_, rfl⟩
  have HP1 : Hid (p1 = if s.l1.h < s.l1.n then some ⟨s.l1.b, s.l1.h * 7, none⟩ else none) := hp1
  clear hp1
  go_cut [4] (fun v wx => v = .pointer p1 ∧ Below W0.heap.size W0 wx)
  case first =>
    by_cases h1 : s.l1.h < s.l1.n
    · go_wp2_with fail
      refine (firstSome q1 h1).mono ?_
      rintro r w1 ⟨rfl, hb1⟩
      go_wp2
      go_meet
      exact ⟨by rw [HP1.out, if_pos h1], hb1⟩
    · go_wp2_with fail
      refine (firstNil q1 (by have := q1.hle; omega)).mono ?_
      rintro r w1 ⟨rfl, hb1⟩
      go_wp2
      go_meet
      exact ⟨by rw [HP1.out, if_neg h1], hb1⟩
  case rest =>
    obtain ⟨rfl, hb1⟩ := hcut
    have q0' := q0.below hb1
    have q1' := q1.below hb1
    clear q0 q1
    go_upto_region 3 with fail
    have HW0 : Hid (Below W0.heap.size W0 wc) := hb1
    clear hb1
    go_cut [26] (fun v wx => v = .bool (pick1 s) ∧ Below wc.heap.size wc wx)
    case first =>
      by_cases h1 : s.l1.h < s.l1.n
      · have e1 : p1 = some ⟨s.l1.b, s.l1.h * 7, none⟩ := by rw [HP1.out, if_pos h1]
        subst e1
        by_cases h0 : s.l0.h = s.l0.n
        · have E : Hid (pick1 s = true) := by simp [Hid, pick1, h1, h0]
          have hz : ((s.l0.n - s.l0.h : Nat) : Int) = 0 := by omega
          clear h0 h1
          go_wp2_with fail
          refine (lenOK q0').mono ?_
          rintro r w2 ⟨rfl, hb2⟩
          rw [hz]
          go_wp2
          go_meet
          exact ⟨by rw [E.out], hb2⟩
        · have h0' : s.l0.h < s.l0.n := by have := q0'.hle; omega
          have hz : (((s.l0.n - s.l0.h : Nat) : Int) == 0) = false := beq_eq_false_iff_ne.2 (by omega)
          have E : Hid (pick1 s = bef (s.l1.E s.l1.h) (s.l0.E s.l0.h)) := by simp [Hid, pick1, h1, h0]
          have eA := q1'.first h1
          have eB := q0'.first h0'
          obtain ⟨z, HZ⟩ : ∃ z : Nat, Hid (s.l0.n - s.l0.h = z) := ⟨_, rfl⟩
          go_wp2_with fail
          refine (lenOK q0').mono ?_
          rintro r w2 ⟨rfl, hb2⟩
          go_wp2_with fail
          refine (firstSome (q0'.below hb2) h0').mono ?_
          rintro r w3 ⟨rfl, hb3⟩
          have hb23 := hb2.trans (hb3.mono hb2.size)
          go_wp2_with fail
          refine (evBefore_any _ _ _ _ (s.l1.E s.l1.h) (s.l0.E s.l0.h) _ (eA.below eA.lt hb23) (eB.below eB.lt hb23)).mono ?_
          rintro r w4 ⟨rfl, hb4⟩
          have hb24 := hb23.trans (hb4.mono hb23.size)
          go_wp2
          go_meet
          exact ⟨by rw [E.out], hb24⟩
      · have e1 : p1 = none := by rw [HP1.out, if_neg h1]
        subst e1
        have E : Hid (pick1 s = false) := by simp [Hid, pick1, h1]
        go_wp2
        go_meet
        exact ⟨by rw [E.out], Below.refl _ _⟩
    case rest =>
      obtain ⟨rfl, hb2⟩ := hcut
      rename World => wd
      have hB2 : Below W0.heap.size W0 wd := HW0.out.trans (hb2.mono HW0.out.size)
      clear q0' q1' hb2 HW0
      go_upto_if 26 with fail
      go_cut [3] (fun v wx => v = .pointer (some ⟨qb, lo, none⟩) ∧ wx = wd)
      case first =>
        cases hpk : pick1 s with
        | true =>
          have hlo' : lo = 3 := by rw [hlo, hpk]; rfl
          clear hlo
          subst hlo'
          go_wp2
          go_meet
          exact ⟨rfl, rfl⟩
        | false =>
          have hlo' : lo = 1 := by rw [hlo, hpk]; rfl
          clear hlo
          subst hlo'
          go_wp2
          go_meet
          exact ⟨rfl, rfl⟩
      case rest =>
        obtain ⟨rfl, hw⟩ := hcut
        have hw' := hw.symm
        subst hw'
        clear hlo
        have hb := hbel.trans (hB2.mono hbel.size)
        have hqd := hq.below hb
        have hLd := hL.below hb
        have oned := one0.below hB2
        have hsz := hb.size
        have cT := hqd.qt.at_.c0
        have cTb : ∀ x : BW wd, x.v.cell? ⟨qb, 5, none⟩ = some (.slice s.tm.a s.tm.n s.tm.c) := cell_bw cT
        have HQ : Hid (QSt w B qb dl s) := hq
        have HLD : Hid (LnOK wd qb lo L) := hLd
        have HO : Hid (One wd r0 ev0) := oned
        have HBB : Hid (Below w.heap.size w wd) := hb
        go_upto_region 5 with fail
        obtain ⟨ut, hut⟩ : ∃ ut : Bool, ut = (decide (0 < s.tm.n) && (decide (L.h = L.n) || bef (s.tm.E 0) (L.E L.h))) := ⟨_, rfl⟩
        have HUT : Hid (ut = (decide (0 < s.tm.n) && (decide (L.h = L.n) || bef (s.tm.E 0) (L.E L.h)))) := hut
        have hL0 : Hid (LnOK w qb lo L) := hL
        clear hut hq hL one0 hbel hB2 hqW hqd hLd oned hb cT
        go_cut [51] (fun v wx => v = .bool ut ∧ Below wd.heap.size wd wx)
        case first =>
          by_cases hn : 0 < s.tm.n
          · have hn1 : (0 : Int) < (s.tm.n : Int) := by omega
            obtain ⟨ha, hrow⟩ := (HQ.out.below HBB.out).qt.row hn
            by_cases hl : L.h = L.n
            · have E : Hid (ut = true) := by rw [Hid, HUT.out]; simp [hn, hl]
              have hz : ((L.n - L.h : Nat) : Int) = 0 := by omega
              have C1 : Hid (∀ x : BW wd, Calls Try.prog 40 #[.pointer (some ⟨qb, lo, none⟩)] x.v fun e w'' => e = .returned (.int .i64 0) ∧ ∃ y : BW wd, w'' = y.v) := fun x => bw_of (by have h := lenOK (HLD.out.below x.h); rw [hz] at h; exact h)
              clear hl hz
              refine wp_region_bw (by kernel_rfl) (by kernel_rfl) ?_
              repeat (go_big_quiet_step (with_reducible exact C1.out _))
              refine wpQuiet_nil ?_
              rintro _ ⟨⟨w1, hb1⟩, rfl⟩
              go_wp2
              go_meet
              exact ⟨by rw [E.out], hb1⟩
            · have hl' : L.h < L.n := by have := HLD.out.hle; omega
              have E : Hid (ut = bef (s.tm.E 0) (L.E L.h)) := by rw [Hid, HUT.out]; simp [hn, hl]
              have hz : (((L.n - L.h : Nat) : Int) == 0) = false := beq_eq_false_iff_ne.2 (by omega)
              obtain ⟨z, HZ⟩ : ∃ z : Nat, Hid (L.n - L.h = z) := ⟨_, rfl⟩
              rw [HZ.out] at hz
              have C1 : Hid (∀ x : BW wd, Calls Try.prog 40 #[.pointer (some ⟨qb, lo, none⟩)] x.v fun e w'' => e = .returned (.int .i64 z) ∧ ∃ y : BW wd, w'' = y.v) := fun x => bw_of (by have h := lenOK (HLD.out.below x.h); rw [HZ.out] at h; exact h)
              have C2 : Hid (∀ x : BW wd, Calls Try.prog 41 #[.pointer (some ⟨qb, lo, none⟩)] x.v fun e w'' => e = .returned (.pointer (some ⟨L.b, L.h * 7, none⟩)) ∧ ∃ y : BW wd, w'' = y.v) := fun x => bw_of (firstSome (HLD.out.below x.h) hl')
              have eT : EAt wd s.tm.b 0 (s.tm.E 0) := by have := hrow.at_ 0 hn; rwa [Nat.zero_mul] at this
              have eL : EAt wd L.b (L.h * 7) (L.E L.h) := HLD.out.first hl'
              have C3 : Hid (∀ x : BW wd, Calls Try.prog 45 #[.pointer (some ⟨s.tm.b, 0, none⟩), .pointer (some ⟨L.b, L.h * 7, none⟩)] x.v fun e w'' => e = .returned (.bool (bef (s.tm.E 0) (L.E L.h))) ∧ ∃ y : BW wd, w'' = y.v) := fun x => bw_of (evBefore_any _ _ _ _ _ _ _ (eT.bw x) (eL.bw x))
              clear hl hl' eT eL
              refine wp_region_bw (by kernel_rfl) (by kernel_rfl) ?_
              repeat (go_big_quiet_step (first | with_reducible exact C1.out _ | with_reducible exact C2.out _ | with_reducible exact C3.out _))
              refine wpQuiet_nil ?_
              rintro _ ⟨⟨w1, hb1⟩, rfl⟩
              go_wp2
              go_meet
              exact ⟨by rw [E.out], hb1⟩
          · have E : Hid (ut = false) := by rw [Hid, HUT.out]; simp [hn]
            have hz : s.tm.n = 0 := by omega
            have hz1 : decide ((0 : Int) < (s.tm.n : Int)) = false := decide_eq_false (by omega)
            refine wp_region_bw (by kernel_rfl) (by kernel_rfl) ?_
            repeat (go_big_quiet_step (fail))
            refine wpQuiet_nil ?_
            rintro _ ⟨⟨w1, hb1⟩, rfl⟩
            go_wp2
            go_meet
            exact ⟨by rw [E.out], hb1⟩
        case rest =>
          obtain ⟨rfl, hb3⟩ := hcut
          rename World => we
          have hbe := HBB.out.trans (hb3.mono HBB.out.size)
          have onee := HO.out.below hb3
          have hqe := HQ.out.below hbe
          have hLe := HLD.out.below hb3
          have hsz2 := hbe.size
          clear HO HLD hb3 HBB cTb
          cases ut with
          | true =>
            have hu := HUT.out.symm
            simp only [Bool.and_eq_true, Bool.or_eq_true, decide_eq_true_eq] at hu
            obtain ⟨hn, hl⟩ := hu
            have hle := hLe.hle
            have HL2 : Hid (Least s (s.tm.E 0)) := HLeast.out (fun h => by rcases hl with hl | hl; exact (by omega); exact hl)
            obtain ⟨ha, hrow⟩ := hqe.qt.row hn
            obtain ⟨m, hm⟩ : ∃ m, s.tm.n = m + 1 := ⟨s.tm.n - 1, by omega⟩
            have hvT := hqe.qt.at_
            rw [ha] at hvT
            go_wp2_with fail
            refine (timedPop_any qb 5 s.tm.b s.tm.n m s.tm.c s.tm.E _ hm (Nat.le_trans hqe.qt.nc hqe.qt.cb) hqe.qt.nc hqe.qt.heap hvT hrow hqe.qt.ne).mono ?_
            rintro r w1 ⟨T', rfl, v1, row1, hp1, hpm1, hc1⟩
            have htb : s.tm.b < r0 := by rw [← hr0]; exact (HQ.out.qt.row hn).2.lt
            have HVR : Hid (TmAt w1 qb 5 (.slice (some ⟨s.tm.b, 0, none⟩) m s.tm.c) ∧ ERow w1 s.tm.b m T') := ⟨v1, row1⟩
            have HPP : Hid (HeapP T' m ∧ (seg T' 0 m).Perm (seg s.tm.E 1 m)) := ⟨hp1, hpm1⟩
            clear v1 row1 hp1 hpm1 hvT hrow hl HUT
            have hqb : qb < w.heap.size := World.block_lt_of_cell? _ _ HQ.out.d
            have oneZ := onee.ch hc1 (fun _ e => by rcases e with e | e; exact (by omega); exact (by have := e.1; omega))
            have hch1 : Ch (tpS qb 5 s.tm.b) w w1 := (Ch.ofBelow hbe).trans hc1
            clear onee hc1 hqe hLe hbe
            obtain ⟨z0, z1, z2, z3, z4, z5, z6⟩ := oneZ.at_
            obtain ⟨y0, y1, y2, y3, y4, y5, y6⟩ := oneZ.free
            have HO : Hid (One w1 r0 ev0) := oneZ
            have HC : Hid (Ch (tpS qb 5 s.tm.b) w w1) := hch1
            clear oneZ hch1
            go_wp2
            clear z0 z1 z2 z3 z4 z5 z6 y0 y1 y2 y3 y4 y5 y6
            change bodyPost _ _ _ _ _ (w1.setCells r0 0 (ecells (s.tm.E 0)))
            have oneF := HO.out.set (s.tm.E 0)
            have hc9 : Ch (fun r _ => r = r0) w1 (w1.setCells r0 0 (ecells (s.tm.E 0))) := Ch.setCells r0 _ _ (Ch.refl _ w1) (fun _ _ _ => rfl)
            have ch9 : Ch (tpS qb 5 s.tm.b) w (w1.setCells r0 0 (ecells (s.tm.E 0))) := Ch.setCells r0 _ _ HC.out (fun _ _ e => by omega)
            have v9 := HVR.out.1.ch hc9 (fun e => by have : qb = r0 := e; omega)
            have row9 := HVR.out.2.ch hc9 (fun _ e => by have : s.tm.b = r0 := e; omega)
            have hBB := ch9.below hB (tpS_ge HQ.out.Bq HQ.out.Bt 5)
            have hCC : Ch (qS qb s) w (w1.setCells r0 0 (ecells (s.tm.E 0))) := ch9.mono (fun r o _ e => by rcases e with e | e; exact .inr (.inr (.inr ⟨hn, e⟩)); exact .inl e.1)
            have hs' := HQ.out.popT hm v9 row9 HPP.out.1 ch9
            have hst : Step s { s with tm := ⟨some ⟨s.tm.b, 0, none⟩, s.tm.b, m, s.tm.c, T'⟩ } (s.tm.E 0) := ⟨HL2.out, .inr (.inr ⟨⟨hm, rfl, rfl, rfl, HPP.out.2⟩, rfl, rfl⟩)⟩
            generalize ({ s with tm := ⟨some ⟨s.tm.b, 0, none⟩, s.tm.b, m, s.tm.c, T'⟩ } : Qs) = s' at hs' hst
            generalize w1.setCells r0 0 (ecells (s.tm.E 0)) = W9 at *
            obtain ⟨x0, x1, x2, x3, x4, x5, x6⟩ := oneF.at_
            exact bodyPost_ret (v := .agg #[.int .u64 ((s.tm.E 0)).hi, .int .u64 ((s.tm.E 0)).lo, .int .u64 ((s.tm.E 0)).ord, .int .u8 ((s.tm.E 0)).kind, .int .i64 ((s.tm.E 0)).user, .pointer none, .pointer none]) (by simp [results, Try.results38, go_sem, x0, x1, x2, x3, x4, x5, x6]) rfl ⟨s', _, rfl, hs', hst, hBB, hCC⟩
          | false =>
            have hle := hLe.hle
            have hu : 0 < s.tm.n → L.h < L.n ∧ bef (s.tm.E 0) (L.E L.h) = false := fun h => by
              have hu := HUT.out.symm
              simp only [h, decide_true, Bool.true_and, Bool.or_eq_false_iff, decide_eq_false_iff_not] at hu
              exact ⟨by omega, hu.2⟩
            have hlt : L.h < L.n := by rcases HNe.out hne with h | h; exact h; exact (hu h).1
            have hLb : L.b < r0 := by rw [← hr0]; exact (hL0.out.row (by omega)).2.lt
            go_wp2_with fail
            refine (pop_any qb lo L.b L.n L.c L.h L.E _ (hLe.st hlt) hlt).mono ?_
            rintro r w1 ⟨n', h', E', rfl, st1, hp1, hc1⟩
            have HST : Hid (LineSt w1 qb lo L.b n' L.c h' E') := st1
            have HPP : Hid (Popped L.n L.h L.E n' h' E') := hp1
            have HU : Hid (0 < s.tm.n → L.h < L.n ∧ bef (s.tm.E 0) (L.E L.h) = false) := hu
            clear st1 hp1 hu HUT
            have hqb : qb < w.heap.size := World.block_lt_of_cell? _ _ HQ.out.d
            have oneZ := onee.ch hc1 (fun _ e => by rcases e with e | e; exact (by omega); exact (by have := e.1; omega))
            have hch1 : Ch (popS qb lo L.b) w w1 := (Ch.ofBelow hbe).trans hc1
            clear onee hc1 hqe hLe hbe
            obtain ⟨z0, z1, z2, z3, z4, z5, z6⟩ := oneZ.at_
            obtain ⟨y0, y1, y2, y3, y4, y5, y6⟩ := oneZ.free
            have HO : Hid (One w1 r0 ev0) := oneZ
            have HC : Hid (Ch (popS qb lo L.b) w w1) := hch1
            clear oneZ hch1
            go_wp2
            clear z0 z1 z2 z3 z4 z5 z6 y0 y1 y2 y3 y4 y5 y6
            change bodyPost _ _ _ _ _ (w1.setCells r0 0 (ecells (L.E L.h)))
            have oneF := HO.out.set (L.E L.h)
            have hc9 : Ch (fun r _ => r = r0) w1 (w1.setCells r0 0 (ecells (L.E L.h))) := Ch.setCells r0 _ _ (Ch.refl _ w1) (fun _ _ _ => rfl)
            have ch9 : Ch (popS qb lo L.b) w (w1.setCells r0 0 (ecells (L.E L.h))) := Ch.setCells r0 _ _ HC.out (fun _ _ e => by omega)
            have st9 := HST.out.ch hc9 (fun e => by have : qb = r0 := e; omega) (fun e => by have : qb = r0 := e; omega) (fun _ e => by have : L.b = r0 := e; omega)
            obtain ⟨s', hs', hst, hBB, hCC⟩ := HFin.out _ n' h' E' hlt st9 HPP.out ch9 (fun h => (HU.out h).2)
            generalize w1.setCells r0 0 (ecells (L.E L.h)) = W9 at *
            obtain ⟨x0, x1, x2, x3, x4, x5, x6⟩ := oneF.at_
            exact bodyPost_ret (v := .agg #[.int .u64 ((L.E L.h)).hi, .int .u64 ((L.E L.h)).lo, .int .u64 ((L.E L.h)).ord, .int .u8 ((L.E L.h)).kind, .int .i64 ((L.E L.h)).user, .pointer none, .pointer none]) (by simp [results, Try.results38, go_sem, x0, x1, x2, x3, x4, x5, x6]) rfl ⟨s', _, rfl, hs', hst, hBB, hCC⟩
end Go.Proofs.Qxb6613083a
