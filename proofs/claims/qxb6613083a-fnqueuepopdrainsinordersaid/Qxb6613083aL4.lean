/-
  THE WALK of FnQueuePopDrainsInOrder.
-/
import Derived.Test.Qxb6613083aP4
namespace Go.Proofs.Qxb6613083a
open Go.RowKit Go.BigFrame
attribute [local go_sem ↓] eql29 neq29

set_option maxHeartbeats 1000000 in
set_option maxRecDepth 100000 in
theorem drains_out (d : Int) (a0 : Option Addr) (n0 c0 : Nat) (h0 : Int) (a1 : Option Addr) (n1 c1 : Nat) (h1 : Int) (a2 : Option Addr) (n2 c2 : Nat) (w : World) (m0 : n0 ≤ 9223372036854775807) (m1 : n1 ≤ 9223372036854775807) (m2 : n2 ≤ 9223372036854775807) (hout : 26214 < n0 + n1 + n2) :
    Calls Try.prog 4 #[.int .u64 d, .slice a0 n0 c0, .int .i64 h0, .slice a1 n1 c1, .int .i64 h1, .slice a2 n2 c2] w fun r w' => r = .returned (.bool true) ∧ Below w.heap.size w w' := by
  go_enter Try.func4, Try.ntmps4
  go_wp2_with fail
  refine (bytes23_any d a0 n0 c0 h0 a1 n1 c1 h1 a2 n2 c2 _ m0 m1 m2).mono ?_
  rintro r w1 ⟨b, rfl, hw⟩
  have hw' := hw.symm
  subst hw'
  cases b with
  | false =>
    go_wp2
    go_ret
    exact ⟨rfl, Below.refl _ _⟩
  | true =>
    by_cases g0 : 32768 < n0
    · have i0 : (32768 : Int) < n0 := by omega
      go_wp2
      go_ret
      exact ⟨rfl, Below.refl _ _⟩
    · have i0 : ¬ (32768 : Int) < n0 := by omega
      by_cases g1 : 32768 < n1
      · have i1 : (32768 : Int) < n1 := by omega
        go_wp2
        go_ret
        exact ⟨rfl, Below.refl _ _⟩
      · have i1 : ¬ (32768 : Int) < n1 := by omega
        by_cases g2 : 32768 < n2
        · have i2 : (32768 : Int) < n2 := by omega
          go_wp2
          go_ret
          exact ⟨rfl, Below.refl _ _⟩
        · have i2 : ¬ (32768 : Int) < n2 := by omega
          have i3 : (1048576 : Int) < 40 * ((n0 : Int) + n1 + n2) := by omega
          go_wp2
          go_ret
          exact ⟨rfl, Below.refl _ _⟩

set_option maxHeartbeats 2000000 in
set_option maxRecDepth 100000 in
theorem drains_in (d : Int) (a0 : Option Addr) (n0 c0 : Nat) (h0 : Int) (E0 : Nat → Ev) (a1 : Option Addr) (n1 c1 : Nat) (h1 : Int) (E1 : Nat → Ev) (a2 : Option Addr) (n2 c2 : Nat) (E2 : Nat → Ev) (w : World) (hn : n0 + n1 + n2 ≤ 26214)
    (q0 : QSl w w.heap.size a0 n0 E0) (q1 : QSl w w.heap.size a1 n1 E1) (q2 : QSl w w.heap.size a2 n2 E2) (z0 : a0 = none → n0 = 0 ∧ c0 = 0) (z1 : a1 = none → n1 = 0 ∧ c1 = 0) (z2 : a2 = none → n2 = 0 ∧ c2 = 0) :
    Calls Try.prog 4 #[.int .u64 d, .slice a0 n0 c0, .int .i64 h0, .slice a1 n1 c1, .int .i64 h1, .slice a2 n2 c2] w fun r w' => r = .returned (.bool true) ∧ Below w.heap.size w w' := by
  have i0 : ¬ (32768 : Int) < n0 := by omega
  have i1 : ¬ (32768 : Int) < n1 := by omega
  have i2 : ¬ (32768 : Int) < n2 := by omega
  have i3 : ¬ (1048576 : Int) < 40 * ((n0 : Int) + n1 + n2) := by omega
  go_enter Try.func4, Try.ntmps4
  go_wp2_with fail
  refine (bytes23_any d a0 n0 c0 h0 a1 n1 c1 h1 a2 n2 c2 _ (by omega) (by omega) (by omega)).mono ?_
  rintro r w1 ⟨b, rfl, hw⟩
  have hw' := hw.symm
  subst hw'
  cases b with
  | false =>
    go_wp2
    go_ret
    exact ⟨rfl, Below.refl _ _⟩
  | true =>
    go_wp2_with fail
    refine (queueOK_any a0 n0 c0 h0 E0 a1 n1 c1 h1 E1 a2 n2 c2 E2 _ (by omega) q0 q1 q2).mono ?_
    rintro r w1 ⟨ok, rfl, hok, hb1⟩
    cases ok with
    | false =>
      clear hok
      go_wp2
      go_ret
      exact ⟨rfl, hb1⟩
    | true =>
      obtain ⟨k0, k1, rfl, rfl, hk0, hk1, p0, p1, hhp, F0, hpm0, hst0⟩ := (hok rfl).open_
      obtain ⟨N, HN⟩ : ∃ N : Nat, Hid (n0 - k0 + (n1 - k1) + n2 = N) := ⟨_, rfl⟩
      rw [HN.out] at hpm0 hst0
      have hN : N ≤ 26214 := by have := HN.out; omega
      have HP : Hid (LineP n0 E0 k0 ∧ LineP n1 E1 k1 ∧ HeapP E2 n2 ∧ (seg F0 0 N).Perm (liveL n0 k0 E0 n1 k1 E1 n2 E2) ∧ Strict F0 N) := ⟨p0, p1, hhp, hpm0, hst0⟩
      clear hok p0 p1 hhp hpm0 hst0
      go_wp2_with fail
      refine (live_any a0 n0 c0 k0 E0 a1 n1 c1 k1 E1 a2 n2 c2 E2 _ (by omega) (by omega) (by omega) ((q0.below hb1).mono hb1.size) ((q1.below hb1).mono hb1.size) ((q2.below hb1).mono hb1.size)).mono ?_
      rw [HN.out]
      rintro r w2 ⟨g, cap, L, rfl, hg, rowL, hsegL, hb2⟩
      have hb12 := hb1.trans (hb2.mono hb1.size)
      go_wp2_with fail
      refine (sort_any _ N cap L _ (by omega) rowL.sl).mono ?_
      rintro r w3 ⟨g2, F, rfl, hg2, rowF, hpmF, hsrtF, hb3⟩
      have hb13 := hb12.trans (hb3.mono hb12.size)
      have hpm : (seg F 0 N).Perm (liveL n0 k0 E0 n1 k1 E1 n2 E2) := by rw [hsegL] at hpmF; exact hpmF
      have hst : Strict F N := strict_of_srt HP.out.2.2.2.2 (hpm.trans HP.out.2.2.2.1.symm) hsrtF
      have HF : Hid ((seg F 0 N).Perm (liveL n0 k0 E0 n1 k1 E1 n2 E2) ∧ Strict F N) := ⟨hpm, hst⟩
      clear hsegL hpmF hsrtF rowL hb1 hb2 hb12 hb3 hpm hst hg hg2
      have q0' := (q0.below hb13).mono hb13.size
      have q1' := (q1.below hb13).mono hb13.size
      have q2' := (q2.below hb13).mono hb13.size
      clear q0 q1 q2
      go_wp2_with fail
      refine (toEvents_all a0 n0 c0 E0 _ (by omega) q0' z0).mono ?_
      rintro r w4 ⟨b0, rfl, t0, hb4⟩
      have hb34 := hb4
      go_wp2_with fail
      refine (toEvents_all a1 n1 c1 E1 _ (by omega) ((q1'.below hb34).mono hb34.size) z1).mono ?_
      rintro r w5 ⟨b1, rfl, t1, hb5⟩
      have hb35 := hb34.trans (hb5.mono hb34.size)
      go_wp2_with fail
      refine (toEvents_all a2 n2 c2 E2 _ (by omega) ((q2'.below hb35).mono hb35.size) z2).mono ?_
      rintro r w6 ⟨b2, rfl, t2, hb6⟩
      have hb36 := hb35.trans (hb6.mono hb35.size)
      go_wp2_with fail
      refine (newQueue_any d b0 n0 n0 k0 b1 n1 n1 k1 b2 n2 n2 _).mono ?_
      rintro r w7 ⟨rfl, hd, l0, l1, tm, hb7⟩
      have hb37 := hb36.trans (hb7.mono hb36.size)
      obtain ⟨s, qs, e0, e1, e2⟩ := QSt.make (B := w3.heap.size) (Nat.le_refl _) t0 hb4.size t1 hb5 t2 hb6 hd l0 l1 tm hb7 (by omega) (by omega) (by omega) hk0 hk1 HP.out.2.2.1
      have hol : Hol F N 0 s := Hol.made HP.out.1 HP.out.2.1 HF.out.1 e0 e1 e2
      have hst : Strict F N := HF.out.2
      clear e0 e1 e2 t0 t1 t2 hd l0 l1 tm hb4 hb5 hb6 hb7 hb34 hb35 hb36 q0' q1' q2' z0 z1 z2 HP HF hk0 hk1 HN i0 i1 i2 i3 hn
      obtain ⟨qb, hqb⟩ : ∃ qb, w6.heap.size = qb := ⟨_, rfl⟩
      rw [hqb] at qs ⊢
      clear hqb
      obtain ⟨B, HB⟩ : ∃ B, Hid (w3.heap.size = B) := ⟨_, rfl⟩
      have hgB : g2 < B := by rw [← HB.out]; exact rowF.lt
      rw [HB.out] at qs hb37
      have hrow : Hid (∀ i, i < N → QAt w3 g2 (i * 5) (F i)) := rowF.at_
      clear rowF
      have HST : Hid (Strict F N) := hst
      clear hst
      go_wp2_with fail
      go_loopw [15] (fun x wr => ∃ (i : Nat) (s : Qs), x = .int .i64 i ∧ i ≤ N ∧ QSt wr B qb d s ∧ Hol F N i s ∧ Below B w3 wr) (fun x _ => N - (intOf x).toNat)
      case atStart => exact ⟨0, s, rfl, by omega, qs, hol, hb37⟩
      case round =>
        clear qs hol hb37
        clear s
        obtain ⟨i, s, rfl, hi, qs, hol, hbel⟩ := hrel
        have hBw : B ≤ wr.heap.size := by rw [← HB.out]; exact hbel.size
        by_cases hlt : i < N
        · obtain ⟨e, HE⟩ : ∃ e, Hid (F i = e) := ⟨_, rfl⟩
          have C : Hid (∀ W, QSt W B qb d s → B ≤ W.heap.size → Calls Try.prog 15 #[.pointer (some ⟨qb, 0, none⟩)] W fun r w' => ∃ s', r = .returned (.agg #[.int .u64 e.hi, .int .u64 e.lo, .int .u64 e.ord, .int .u8 e.kind, .int .i64 e.user, .pointer none, .pointer none]) ∧ QSt w' B qb d s' ∧ Hol F N (i + 1) s' ∧ Step s s' e ∧ Below B W w') := by
            rw [← HE.out]; exact fun W hq hB => qpop_next B qb d s F N i HST.out hlt hol W hq hB
          have qi : QAt wr g2 (i * 5) e := by have := (hrow.out i hlt).below hgB hbel; rwa [HE.out] at this
          have qD : QSt wr.drew B qb d s := qs.below (Below.refl _ wr).drew
          have hBD : B ≤ wr.drew.heap.size := hBw
          have HBel : Hid (Below B w3 wr.drew) := hbel.drew
          have sS : QAt wr.drew g2 (i * 5) e := qi
          have hss := same_self e
          clear hol hbel qs
          go_upto_region 14 with fail
          go_region_held3 (fun w' => QAt w' g2 (i * 5) e) (first | with_reducible exact sS | with_reducible exact sT | with_reducible exact sU) (first | (go_at_call 15; refine (C.out _ qD hBD).mono ?_; rintro r w7 ⟨s7, rfl, q7, h7, st7, hb7⟩; have sT := sS.below hgB hb7) | (go_at_call 14; refine (fromEvent_any e _).mono ?_; rintro r w8 ⟨rfl, hb8⟩; have sU := sT.below sT.lt hb8))
          have q8 := q7.below hb8
          have B8 : Hid (Below B w3 w8) := (HBel.out.trans hb7).trans (hb8.mono (HBel.out.trans hb7 |>.size |> fun h => by rw [HB.out] at h; exact h))
          have H8 : Hid (QSt w8 B qb d s7 ∧ Hol F N (i + 1) s7) := ⟨q8, h7⟩
          clear sS sT sU q7 q8 h7 st7 hb7 hb8 qD hBD HBel C qi hss
          go_wp2
          go_roundw
          case rel => exact ⟨i + 1, s7, by go_num, by omega, H8.out.1, H8.out.2, B8.out⟩
          case measure => simp [intOf]; omega
        · obtain rfl : i = N := by omega
          obtain ⟨y0, y1, y2⟩ := hol.empty
          have l0 := qs.q0.at_
          have l1 := qs.q1.at_
          have tt := qs.qt.at_
          have nb0 := qs.q0.nb
          have nb1 := qs.q1.nb
          have hl0 := qs.q0.hle
          have hl1 := qs.q1.hle
          have H0 : Hid (s.l0.n - s.l0.h = 0 ∧ s.l1.n - s.l1.h = 0 ∧ s.tm.n = 0) := ⟨y0, y1, y2⟩
          clear y0 y1 y2 hol qs
          go_wp2_with fail
          refine (queueLine0 qb _).mono ?_
          rintro r wa ⟨rfl, hwa⟩
          obtain rfl := hwa.symm
          go_wp2_with fail
          refine (zzlineLen_any qb 1 s.l0.a s.l0.n s.l0.c s.l0.h _ nb0 hl0 l0).mono ?_
          rintro r wb ⟨rfl, xb, hwb⟩
          rw [H0.out.1]
          subst hwb
          have bb1 : Below wr.heap.size wr (wr.drewN xb) := below_drewN (Below.refl _ _) xb
          have l1' := l1.below bb1
          have tt' := tt.below bb1
          have B1 : Hid (Below B w3 (wr.drewN xb)) := below_drewN hbel xb
          clear l0 l1 tt bb1 hbel hBw
          generalize wr.drewN xb = W1 at *
          go_wp2_with fail
          refine (queueLine1 qb _).mono ?_
          rintro r wa ⟨rfl, hwa⟩
          obtain rfl := hwa.symm
          go_wp2_with fail
          refine (zzlineLen_any qb 3 s.l1.a s.l1.n s.l1.c s.l1.h _ nb1 hl1 l1').mono ?_
          rintro r wb ⟨rfl, xc, hwb⟩
          rw [H0.out.2.1]
          subst hwb
          have bb1 : Below W1.heap.size W1 (W1.drewN xc) := below_drewN (Below.refl _ _) xc
          have tt2 := tt'.below bb1
          have B2 : Hid (Below B w3 (W1.drewN xc)) := below_drewN B1.out xc
          clear l1' tt' bb1 B1
          generalize W1.drewN xc = W2 at *
          rw [H0.out.2.2] at tt2
          clear H0
          go_wp2_with fail
          refine (queueTimed_any qb _ _ ⟨_, _, _, rfl⟩ tt2).mono ?_
          rintro r wa ⟨rfl, hwa⟩
          obtain rfl := hwa.symm
          go_wp2
          go_ret
          exact ⟨rfl, hb13.trans (B2.out.mono (by rw [← HB.out]; exact hb13.size))⟩

/-- THE WALK, WHOLE. -/
theorem drains_any (d : Int) (a0 : Option Addr) (n0 c0 : Nat) (h0 : Int) (E0 : Nat → Ev) (a1 : Option Addr) (n1 c1 : Nat) (h1 : Int) (E1 : Nat → Ev) (a2 : Option Addr) (n2 c2 : Nat) (E2 : Nat → Ev) (w : World) (m0 : n0 ≤ 9223372036854775807) (m1 : n1 ≤ 9223372036854775807) (m2 : n2 ≤ 9223372036854775807)
    (q0 : QSl w w.heap.size a0 n0 E0) (q1 : QSl w w.heap.size a1 n1 E1) (q2 : QSl w w.heap.size a2 n2 E2) (z0 : a0 = none → n0 = 0 ∧ c0 = 0) (z1 : a1 = none → n1 = 0 ∧ c1 = 0) (z2 : a2 = none → n2 = 0 ∧ c2 = 0) :
    Calls Try.prog 4 #[.int .u64 d, .slice a0 n0 c0, .int .i64 h0, .slice a1 n1 c1, .int .i64 h1, .slice a2 n2 c2] w fun r w' => r = .returned (.bool true) ∧ Below w.heap.size w w' := by
  by_cases hn : n0 + n1 + n2 ≤ 26214
  · exact drains_in d a0 n0 c0 h0 E0 a1 n1 c1 h1 E1 a2 n2 c2 E2 w hn q0 q1 q2 z0 z1 z2
  · exact drains_out d a0 n0 c0 h0 a1 n1 c1 h1 a2 n2 c2 w m0 m1 m2 (by omega)
end Go.Proofs.Qxb6613083a
