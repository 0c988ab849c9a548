/-
  THE WALK of FnLineLenFollowsQueuePops.
-/
import Derived.Test.Qxb6613083aP5
namespace Go.Proofs.Qxb6613083a
open Go.RowKit Go.BigFrame
attribute [local go_sem ↓] eql29 neq29

set_option maxHeartbeats 1000000 in
set_option maxRecDepth 100000 in
theorem follows_out (d : Int) (a0 : Option Addr) (n0 c0 : Nat) (h0 : Int) (a1 : Option Addr) (n1 c1 : Nat) (h1 : Int) (a2 : Option Addr) (n2 c2 : Nat) (w : World) (m0 : n0 ≤ 9223372036854775807) (m1 : n1 ≤ 9223372036854775807) (m2 : n2 ≤ 9223372036854775807) (hout : 26214 < n0 + n1 + n2) :
    Calls Try.prog 6 #[.int .u64 d, .slice a0 n0 c0, .int .i64 h0, .slice a1 n1 c1, .int .i64 h1, .slice a2 n2 c2] w fun r w' => r = .returned (.bool true) ∧ Below w.heap.size w w' := by
  go_enter Try.func6, Try.ntmps6
  go_wp2_with fail
  refine (bytes30_any d a0 n0 c0 h0 a1 n1 c1 h1 a2 n2 c2 _ m0 m1 m2).mono ?_
  rintro r w1 ⟨b, rfl, hw⟩
  have hw' := hw.symm
  subst hw'
  cases b with
  | false =>
    go_wp2
    go_ret
    exact ⟨rfl, Below.refl _ _⟩
  | true =>
    by_cases g0 : 32768 < n0
    · have i0 : (32768 : Int) < n0 := by omega
      go_wp2
      go_ret
      exact ⟨rfl, Below.refl _ _⟩
    · have i0 : ¬ (32768 : Int) < n0 := by omega
      by_cases g1 : 32768 < n1
      · have i1 : (32768 : Int) < n1 := by omega
        go_wp2
        go_ret
        exact ⟨rfl, Below.refl _ _⟩
      · have i1 : ¬ (32768 : Int) < n1 := by omega
        by_cases g2 : 32768 < n2
        · have i2 : (32768 : Int) < n2 := by omega
          go_wp2
          go_ret
          exact ⟨rfl, Below.refl _ _⟩
        · have i2 : ¬ (32768 : Int) < n2 := by omega
          have i3 : (1048576 : Int) < 40 * ((n0 : Int) + n1 + n2) := by omega
          go_wp2
          go_ret
          exact ⟨rfl, Below.refl _ _⟩

set_option maxHeartbeats 2000000 in
set_option maxRecDepth 100000 in
theorem follows_in (d : Int) (a0 : Option Addr) (n0 c0 : Nat) (h0 : Int) (E0 : Nat → Ev) (a1 : Option Addr) (n1 c1 : Nat) (h1 : Int) (E1 : Nat → Ev) (a2 : Option Addr) (n2 c2 : Nat) (E2 : Nat → Ev) (w : World) (hn : n0 + n1 + n2 ≤ 26214)
    (q0 : QSl w w.heap.size a0 n0 E0) (q1 : QSl w w.heap.size a1 n1 E1) (q2 : QSl w w.heap.size a2 n2 E2) (z0 : a0 = none → n0 = 0 ∧ c0 = 0) (z1 : a1 = none → n1 = 0 ∧ c1 = 0) (z2 : a2 = none → n2 = 0 ∧ c2 = 0) :
    Calls Try.prog 6 #[.int .u64 d, .slice a0 n0 c0, .int .i64 h0, .slice a1 n1 c1, .int .i64 h1, .slice a2 n2 c2] w fun r w' => r = .returned (.bool true) ∧ Below w.heap.size w w' := by
  have i0 : ¬ (32768 : Int) < n0 := by omega
  have i1 : ¬ (32768 : Int) < n1 := by omega
  have i2 : ¬ (32768 : Int) < n2 := by omega
  have i3 : ¬ (1048576 : Int) < 40 * ((n0 : Int) + n1 + n2) := by omega
  go_enter Try.func6, Try.ntmps6
  go_wp2_with fail
  refine (bytes30_any d a0 n0 c0 h0 a1 n1 c1 h1 a2 n2 c2 _ (by omega) (by omega) (by omega)).mono ?_
  rintro r w1 ⟨b, rfl, hw⟩
  have hw' := hw.symm
  subst hw'
  cases b with
  | false =>
    go_wp2
    go_ret
    exact ⟨rfl, Below.refl _ _⟩
  | true =>
    go_wp2_with fail
    refine (queueOK_any a0 n0 c0 h0 E0 a1 n1 c1 h1 E1 a2 n2 c2 E2 _ (by omega) q0 q1 q2).mono ?_
    rintro r w1 ⟨ok, rfl, hok, hb1⟩
    cases ok with
    | false =>
      clear hok
      go_wp2
      go_ret
      exact ⟨rfl, hb1⟩
    | true =>
      obtain ⟨k0, k1, rfl, rfl, hk0, hk1, p0, p1, hhp, F0, hpm0, hst0⟩ := (hok rfl).open_
      obtain ⟨N, HN⟩ : ∃ N : Nat, Hid (n0 - k0 + (n1 - k1) + n2 = N) := ⟨_, rfl⟩
      rw [HN.out] at hpm0 hst0
      have hN : N ≤ 26214 := by have := HN.out; omega
      have HP : Hid (LineP n0 E0 k0 ∧ LineP n1 E1 k1 ∧ HeapP E2 n2 ∧ (seg F0 0 N).Perm (liveL n0 k0 E0 n1 k1 E1 n2 E2) ∧ Strict F0 N) := ⟨p0, p1, hhp, hpm0, hst0⟩
      clear hok p0 p1 hhp hpm0 hst0
      obtain ⟨x0, X0⟩ : ∃ x : Nat, Hid (n0 - k0 = x) := ⟨_, rfl⟩
      obtain ⟨x1, X1⟩ : ∃ x : Nat, Hid (n0 - k0 + n1 = x) := ⟨_, rfl⟩
      obtain ⟨x2, X2⟩ : ∃ x : Nat, Hid (n0 - k0 + n1 - k1 = x) := ⟨_, rfl⟩
      have j0 : IntKind.i64.wrap ((n0 : Int) - (k0 : Int)) = (x0 : Int) := by have := X0.out; rw [IntKind.wrap_i64]; omega
      have j1 : IntKind.i64.wrap ((x0 : Int) + (n1 : Int)) = (x1 : Int) := by have := X0.out; have := X1.out; rw [IntKind.wrap_i64]; omega
      have j2 : IntKind.i64.wrap ((x1 : Int) - (k1 : Int)) = (x2 : Int) := by have := X1.out; have := X2.out; rw [IntKind.wrap_i64]; omega
      have j3 : IntKind.i64.wrap ((x2 : Int) + (n2 : Int)) = (N : Int) := by have := X1.out; have := X2.out; have := HN.out; rw [IntKind.wrap_i64]; omega
      have q0' := (q0.below hb1).mono hb1.size
      have q1' := (q1.below hb1).mono hb1.size
      have q2' := (q2.below hb1).mono hb1.size
      go_wp2_with fail
      refine (toEvents_all a0 n0 c0 E0 _ (by omega) q0' z0).mono ?_
      rintro r w4 ⟨b0, rfl, t0, hb4⟩
      have hb34 := hb4
      clear j0 j1 j2 j3 X0 X1 X2
      go_wp2_with fail
      refine (toEvents_all a1 n1 c1 E1 _ (by omega) ((q1'.below hb34).mono hb34.size) z1).mono ?_
      rintro r w5 ⟨b1, rfl, t1, hb5⟩
      have hb35 := hb34.trans (hb5.mono hb34.size)
      go_wp2_with fail
      refine (toEvents_all a2 n2 c2 E2 _ (by omega) ((q2'.below hb35).mono hb35.size) z2).mono ?_
      rintro r w6 ⟨b2, rfl, t2, hb6⟩
      have hb36 := hb35.trans (hb6.mono hb35.size)
      go_wp2_with fail
      refine (newQueue_any d b0 n0 n0 k0 b1 n1 n1 k1 b2 n2 n2 _).mono ?_
      rintro r w7 ⟨rfl, hd, l0, l1, tm, hb7⟩
      have hb37 := hb36.trans (hb7.mono hb36.size)
      obtain ⟨s, qs, e0, e1, e2⟩ := QSt.make (B := w1.heap.size) (Nat.le_refl _) t0 hb4.size t1 hb5 t2 hb6 hd l0 l1 tm hb7 (by omega) (by omega) (by omega) hk0 hk1 HP.out.2.2.1
      have hol : Hol F0 N 0 s := Hol.made HP.out.1 HP.out.2.1 HP.out.2.2.2.1 e0 e1 e2
      have HS : Hid (Strict F0 N ∧ s.l0.live = seg E0 k0 (n0 - k0) ∧ s.l1.live = seg E1 k1 (n1 - k1) ∧ s.tm.n = n2) := ⟨HP.out.2.2.2.2, by unfold Ln.live; rw [e0.1, e0.2.1, e0.2.2], by unfold Ln.live; rw [e1.1, e1.2.1, e1.2.2], e2.1⟩
      clear e0 e1 e2 t0 t1 t2 hd l0 l1 tm hb4 hb5 hb6 hb7 hb34 hb35 hb36 q0' q1' q2' z0 z1 z2 HP HN i0 i1 i2 i3
      obtain ⟨qb, hqb⟩ : ∃ qb, w6.heap.size = qb := ⟨_, rfl⟩
      rw [hqb] at qs ⊢
      clear hqb
      obtain ⟨B, HB⟩ : ∃ B, Hid (w1.heap.size = B) := ⟨_, rfl⟩
      rw [HB.out] at qs hb37
      have hwB : w.heap.size ≤ B := by rw [← HB.out]; exact hb1.size
      go_wp2_with fail
      refine (queueLine0 qb _).mono ?_
      rintro r wa ⟨rfl, hwa⟩
      obtain rfl := hwa.symm
      go_wp2_with fail
      refine (queueLine1 qb _).mono ?_
      rintro r wa ⟨rfl, hwa⟩
      obtain rfl := hwa.symm
      go_wp2_with fail
      go_loopw [17, 18, 19, 20] (fun y0 y1 y2 x wr => ∃ (i p0 p1 nt : Nat) (s : Qs), x = .int .i64 i ∧ y0 = .int .i64 p0 ∧ y1 = .int .i64 p1 ∧ y2 = .int .i64 nt ∧ i ≤ N ∧ p0 ≤ n0 ∧ p1 ≤ n1 ∧ nt ≤ n2 ∧ QSt wr B qb d s ∧ Hol F0 N i s ∧ s.l0.live = seg E0 p0 (n0 - p0) ∧ s.l1.live = seg E1 p1 (n1 - p1) ∧ s.tm.n = nt ∧ Below B w1 wr) (fun _ _ _ x _ => N - (intOf x).toNat)
      case atStart => exact ⟨0, k0, k1, n2, s, rfl, rfl, rfl, rfl, by omega, by omega, by omega, Nat.le_refl _, qs, hol, HS.out.2.1, HS.out.2.2.1, HS.out.2.2.2, hb37⟩
      case round =>
        clear qs hol hb37
        have HST : Hid (Strict F0 N) := HS.out.1
        clear HS
        clear s hk0 hk1
        obtain ⟨i, p0, p1, nt, s, rfl, rfl, rfl, rfl, hi, hp0, hp1, hnt, qs, hol, L0, L1, LT, hbel⟩ := hrel
        have hBw : B ≤ wr.heap.size := by rw [← HB.out]; exact hbel.size
        have v0 : s.l0.n - s.l0.h = n0 - p0 := by have := congrArg List.length L0; unfold Ln.live at this; rwa [seg_len, seg_len] at this
        have v1 : s.l1.n - s.l1.h = n1 - p1 := by have := congrArg List.length L1; unfold Ln.live at this; rwa [seg_len, seg_len] at this
        obtain ⟨x0, X0⟩ : ∃ x : Nat, Hid (n0 - p0 = x) := ⟨_, rfl⟩
        obtain ⟨x1, X1⟩ : ∃ x : Nat, Hid (n1 - p1 = x) := ⟨_, rfl⟩
        rw [X0.out] at v0
        rw [X1.out] at v1
        have HLN : Hid (s.l0.n - s.l0.h = x0 ∧ s.l1.n - s.l1.h = x1) := ⟨v0, v1⟩
        have HL : Hid (s.l0.live = seg E0 p0 (n0 - p0) ∧ s.l1.live = seg E1 p1 (n1 - p1) ∧ s.tm.n = nt) := ⟨L0, L1, LT⟩
        have j0 : IntKind.i64.wrap ((n0 : Int) - (p0 : Int)) = (x0 : Int) := by have := X0.out; rw [IntKind.wrap_i64]; omega
        have j1 : IntKind.i64.wrap ((n1 : Int) - (p1 : Int)) = (x1 : Int) := by have := X1.out; rw [IntKind.wrap_i64]; omega
        have HQ : Hid (QSt wr B qb d s ∧ Hol F0 N i s) := ⟨qs, hol⟩
        have l0 := qs.q0.at_
        have l1 := qs.q1.at_
        have tt := qs.qt.at_
        have nb0 := qs.q0.nb
        have nb1 := qs.q1.nb
        have hl0 := qs.q0.hle
        have hl1 := qs.q1.hle
        rw [LT] at tt
        clear v0 v1 L0 L1 LT qs hol
        by_cases hlt : i < N
        · go_wp2_with fail
          refine (zzlineLen_any qb 1 s.l0.a s.l0.n s.l0.c s.l0.h _ nb0 hl0 l0).mono ?_
          rintro r wb ⟨rfl, xb, hwb⟩
          rw [HLN.out.1]
          subst hwb
          have bb1 : Below wr.heap.size wr (wr.drewN xb) := below_drewN (Below.refl _ _) xb
          have l1' := l1.below bb1
          have tt' := tt.below bb1
          have HQ1 : Hid (QSt (wr.drewN xb) B qb d s ∧ Hol F0 N i s) := ⟨HQ.out.1.below bb1, HQ.out.2⟩
          have B1 : Hid (Below B w1 (wr.drewN xb)) := below_drewN hbel xb
          clear l0 l1 tt bb1 hbel hBw HQ
          generalize wr.drewN xb = W1 at *
          go_wp2_with fail
          refine (zzlineLen_any qb 3 s.l1.a s.l1.n s.l1.c s.l1.h _ nb1 hl1 l1').mono ?_
          rintro r wb ⟨rfl, xc, hwb⟩
          rw [HLN.out.2]
          subst hwb
          have bb1 : Below W1.heap.size W1 (W1.drewN xc) := below_drewN (Below.refl _ _) xc
          have tt2 := tt'.below bb1
          have HQ2 : Hid (QSt (W1.drewN xc) B qb d s ∧ Hol F0 N i s) := ⟨HQ1.out.1.below bb1, HQ1.out.2⟩
          have B2 : Hid (Below B w1 (W1.drewN xc)) := below_drewN B1.out xc
          clear l1' tt' bb1 B1 HQ1
          generalize W1.drewN xc = W2 at *
          go_wp2_with fail
          refine (queueTimed_any qb _ _ ⟨_, _, _, rfl⟩ tt2).mono ?_
          rintro r wa ⟨rfl, hwa⟩
          obtain rfl := hwa.symm
          clear tt2 j0 j1 HLN X0 X1 nb0 nb1 hl0 hl1
          obtain ⟨e, HE⟩ : ∃ e, Hid (F0 i = e) := ⟨_, rfl⟩
          have hB2 : B ≤ W2.heap.size := by rw [← HB.out]; exact B2.out.size
          have C : Calls Try.prog 15 #[.pointer (some ⟨qb, 0, none⟩)] W2 fun r w' => ∃ s', r = .returned (.agg #[.int .u64 e.hi, .int .u64 e.lo, .int .u64 e.ord, .int .u8 e.kind, .int .i64 e.user, .pointer none, .pointer none]) ∧ QSt w' B qb d s' ∧ Hol F0 N (i + 1) s' ∧ Step s s' e ∧ Below B W2 w' := by
            rw [← HE.out]; exact qpop_next B qb d s F0 N i HST.out hlt HQ2.out.2 W2 HQ2.out.1 hB2
          have HCC : Hid (Calls Try.prog 15 #[.pointer (some ⟨qb, 0, none⟩)] W2 fun r w' => ∃ s', r = .returned (.agg #[.int .u64 e.hi, .int .u64 e.lo, .int .u64 e.ord, .int .u8 e.kind, .int .i64 e.user, .pointer none, .pointer none]) ∧ QSt w' B qb d s' ∧ Hol F0 N (i + 1) s' ∧ Step s s' e ∧ Below B W2 w') := C
          clear C
          go_wp2_with fail
          refine HCC.out.mono ?_
          rintro r w8 ⟨s8, rfl, q8, h8, st8, hb8⟩
          have B8 : Hid (Below B w1 w8) := B2.out.trans hb8
          have SRC : Hid (Src n0 p0 E0 n1 p1 E1 s s8 e) := st8.src (Qs.apart HST.out hi HQ2.out.2.live) HL.out.1 HL.out.2.1
          clear B2 hb8 HQ2 HCC hB2
          go_wp2_with fail
          refine (fromEvent_any e _).mono ?_
          rintro r w9 ⟨rfl, hb9⟩
          have HBR : Hid (s.l0.live = seg E0 p0 (n0 - p0)) := HL.out.1
          go_wp2_with fail
          have bA : Below w9.heap.size w9 (w9.alloc (.cells #[.int .u64 e.hi, .int .u64 e.lo, .int .u64 e.ord, .int .u8 e.kind, .int .i64 e.user] 29)) := (Below.refl _ _).alloc (Nat.le_refl _) _
          have bAll := hb9.trans (bA.mono hb9.size)
          have qA : QSt (w9.alloc (.cells #[.int .u64 e.hi, .int .u64 e.lo, .int .u64 e.ord, .int .u8 e.kind, .int .i64 e.user] 29)) B qb d s8 := q8.below bAll
          have hB8 : B ≤ w8.heap.size := by rw [← HB.out]; exact B8.out.size
          have hBW : Hid (Below B w1 (w9.alloc (.cells #[.int .u64 e.hi, .int .u64 e.lo, .int .u64 e.ord, .int .u8 e.kind, .int .i64 e.user] 29))) := B8.out.trans (bAll.mono hB8)
          have oA := oneQ w9 e
          have HQA : Hid (QSt (w9.alloc (.cells #[.int .u64 e.hi, .int .u64 e.lo, .int .u64 e.ord, .int .u8 e.kind, .int .i64 e.user] 29)) B qb d s8 ∧ Hol F0 N (i + 1) s8) := ⟨qA, h8⟩
          clear q8 h8 hb9 bA bAll qA B8 hB8 HBR st8
          generalize w9.alloc (.cells #[.int .u64 e.hi, .int .u64 e.lo, .int .u64 e.ord, .int .u8 e.kind, .int .i64 e.user] 29) = W at *
          obtain ⟨gr, hgr⟩ : ∃ gr, w9.heap.size = gr := ⟨_, rfl⟩
          rw [hgr] at oA ⊢
          clear hgr
          have ov : ∀ x : BW W, QAt x.v gr 0 e := oA.bw
          have hss := same_self e
          rcases SRC.out with ⟨a, b, c, hd, ht, hpp⟩ | ⟨z, a, b, c, hd, ht, hpp⟩ | ⟨z, y, ht, c, hd, hpp⟩
          · have HC : Hid (s8.l0.live = seg E0 (p0 + 1) (n0 - (p0 + 1)) ∧ s8.l1 = s.l1 ∧ s8.tm = s.tm) := ⟨c, hd, ht⟩
            clear c hd ht hpp SRC
            obtain ⟨eb, eo, rfl, heb, hqe⟩ := q0 (by omega)
            have qv : ∀ x : BW W, QAt x.v eb (eo + p0 * 5) e := by
              have := (hqe p0 a).below heb (hb1.trans (hBW.out.mono hwB)); rw [b] at this; exact this.bw
            have hpi : (p0 : Int) < n0 := by omega
            clear hqe b oA q0 q1 q2
            refine wp_region_bw (by kernel_rfl) (by kernel_rfl) ?_
            repeat (go_big_quiet_step (fail))
            refine wpQuiet_nil ?_
            rintro wy ⟨⟨wz, hbwy⟩, hwz⟩
            have ewy : wy = wz := hwz
            subst ewy
            clear ov qv hss
            go_wp2
            go_roundw
            case rel => exact ⟨i + 1, p0 + 1, p1, nt, s8, by go_num, by first | go_num | (congr 1; rw [IntKind.wrap_i64]; omega), rfl, rfl, by omega, by omega, by omega, by omega, HQA.out.1.below hbwy, HQA.out.2, HC.out.1, by rw [HC.out.2.1]; exact HL.out.2.1, by rw [HC.out.2.2]; exact HL.out.2.2, hBW.out.trans (hbwy.mono (by rw [← HB.out]; exact hBW.out.size))⟩
            case measure => simp [intOf]; omega
          · have HC1 : Hid (s8.l1.live = seg E1 (p1 + 1) (n1 - (p1 + 1)) ∧ s8.l0 = s.l0 ∧ s8.tm = s.tm) := ⟨c, hd, ht⟩
            have HE1 : Hid (E1 p1 = e) := b
            clear c hd ht b hpp SRC
            by_cases hp : p0 < n0
            · obtain ⟨f, hf⟩ : ∃ f, E0 p0 = f := ⟨_, rfl⟩
              have hsf : same e f = false := by rw [← hf]; exact z hp
              obtain ⟨eb, eo, rfl, heb, hqe⟩ := q0 (by omega)
              have qv : ∀ x : BW W, QAt x.v eb (eo + p0 * 5) f := by
                have := (hqe p0 hp).below heb (hb1.trans (hBW.out.mono hwB)); rw [hf] at this; exact this.bw
              have hpi : (p0 : Int) < n0 := by omega
              clear hqe hf z q0
              refine wp_region_bw (by kernel_rfl) (by kernel_rfl) ?_
              repeat (go_big_quiet_step (fail))
              refine wpQuiet_nil ?_
              rintro wy ⟨⟨wz, hbwy⟩, hwz⟩
              have ewy : wy = wz := hwz
              clear hwz
              subst ewy
              clear ov qv hsf
              have ov2 : ∀ x : BW wy, QAt x.v gr 0 e := (oA.below oA.lt hbwy).bw
              have HQY : Hid (QSt wy B qb d s8 ∧ Hol F0 N (i + 1) s8) := ⟨HQA.out.1.below hbwy, HQA.out.2⟩
              have hBY : Hid (Below B w1 wy) := hBW.out.trans (hbwy.mono (by rw [← HB.out]; exact hBW.out.size))
              clear HQA hBW hbwy oA
              obtain ⟨eb1, eo1, rfl, heb1, hqe1⟩ := q1 (by omega)
              have qv1 : ∀ x : BW wy, QAt x.v eb1 (eo1 + p1 * 5) e := by
                have := (hqe1 p1 a).below heb1 (hb1.trans (hBY.out.mono hwB)); rw [HE1.out] at this; exact this.bw
              have hpi1 : (p1 : Int) < n1 := by omega
              clear hqe1 q1 q2
              go_upto_region 24 with fail
              refine wp_region_bw (by kernel_rfl) (by kernel_rfl) ?_
              repeat (go_big_quiet_step (fail))
              refine wpQuiet_nil ?_
              rintro wx ⟨⟨wz, hbwx⟩, hwz⟩
              have ewx : wx = wz := hwz
              clear hwz
              subst ewx
              clear ov2 qv1 hss
              go_wp2
              go_roundw
              case rel => exact ⟨i + 1, p0, p1 + 1, nt, s8, by go_num, rfl, by first | go_num | (congr 1; rw [IntKind.wrap_i64]; omega), rfl, by omega, by omega, by omega, by omega, HQY.out.1.below hbwx, HQY.out.2, by rw [HC1.out.2.1]; exact HL.out.1, HC1.out.1, by rw [HC1.out.2.2]; exact HL.out.2.2, hBY.out.trans (hbwx.mono (by rw [← HB.out]; exact hBY.out.size))⟩
              case measure => simp [intOf]; omega
            · have hpi : ¬ (p0 : Int) < n0 := by omega
              clear z q0
              refine wp_region_bw (by kernel_rfl) (by kernel_rfl) ?_
              repeat (go_big_quiet_step (fail))
              refine wpQuiet_nil ?_
              rintro wy ⟨⟨wz, hbwy⟩, hwz⟩
              have ewy : wy = wz := hwz
              clear hwz
              subst ewy
              clear ov
              have ov2 : ∀ x : BW wy, QAt x.v gr 0 e := (oA.below oA.lt hbwy).bw
              have HQY : Hid (QSt wy B qb d s8 ∧ Hol F0 N (i + 1) s8) := ⟨HQA.out.1.below hbwy, HQA.out.2⟩
              have hBY : Hid (Below B w1 wy) := hBW.out.trans (hbwy.mono (by rw [← HB.out]; exact hBW.out.size))
              clear HQA hBW hbwy oA
              obtain ⟨eb1, eo1, rfl, heb1, hqe1⟩ := q1 (by omega)
              have qv1 : ∀ x : BW wy, QAt x.v eb1 (eo1 + p1 * 5) e := by
                have := (hqe1 p1 a).below heb1 (hb1.trans (hBY.out.mono hwB)); rw [HE1.out] at this; exact this.bw
              have hpi1 : (p1 : Int) < n1 := by omega
              clear hqe1 q1 q2
              go_upto_region 24 with fail
              refine wp_region_bw (by kernel_rfl) (by kernel_rfl) ?_
              repeat (go_big_quiet_step (fail))
              refine wpQuiet_nil ?_
              rintro wx ⟨⟨wz, hbwx⟩, hwz⟩
              have ewx : wx = wz := hwz
              clear hwz
              subst ewx
              clear ov2 qv1 hss
              go_wp2
              go_roundw
              case rel => exact ⟨i + 1, p0, p1 + 1, nt, s8, by go_num, rfl, by first | go_num | (congr 1; rw [IntKind.wrap_i64]; omega), rfl, by omega, by omega, by omega, by omega, HQY.out.1.below hbwx, HQY.out.2, by rw [HC1.out.2.1]; exact HL.out.1, HC1.out.1, by rw [HC1.out.2.2]; exact HL.out.2.2, hBY.out.trans (hbwx.mono (by rw [← HB.out]; exact hBY.out.size))⟩
              case measure => simp [intOf]; omega
          · have HC2 : Hid (s.tm.n = s8.tm.n + 1 ∧ s8.l0 = s.l0 ∧ s8.l1 = s.l1) := ⟨ht, c, hd⟩
            have hntp : 0 < nt := by have := HL.out.2.2; omega
            have hntp' : (0 : Int) < nt := by omega
            clear c hd ht hpp SRC
            by_cases hp : p0 < n0
            · obtain ⟨f, hf⟩ : ∃ f, E0 p0 = f := ⟨_, rfl⟩
              have hsf : same e f = false := by rw [← hf]; exact z hp
              obtain ⟨eb, eo, rfl, heb, hqe⟩ := q0 (by omega)
              have qv : ∀ x : BW W, QAt x.v eb (eo + p0 * 5) f := by
                have := (hqe p0 hp).below heb (hb1.trans (hBW.out.mono hwB)); rw [hf] at this; exact this.bw
              have hpi : (p0 : Int) < n0 := by omega
              clear hqe hf z q0
              refine wp_region_bw (by kernel_rfl) (by kernel_rfl) ?_
              repeat (go_big_quiet_step (fail))
              refine wpQuiet_nil ?_
              rintro wy ⟨⟨wz, hbwy⟩, hwz⟩
              have ewy : wy = wz := hwz
              clear hwz
              subst ewy
              clear ov qv hsf
              have ov2 : ∀ x : BW wy, QAt x.v gr 0 e := (oA.below oA.lt hbwy).bw
              have HQY : Hid (QSt wy B qb d s8 ∧ Hol F0 N (i + 1) s8) := ⟨HQA.out.1.below hbwy, HQA.out.2⟩
              have hBY : Hid (Below B w1 wy) := hBW.out.trans (hbwy.mono (by rw [← HB.out]; exact hBW.out.size))
              clear HQA hBW hbwy oA
              by_cases hp1 : p1 < n1
              · obtain ⟨f1, hf1⟩ : ∃ f, E1 p1 = f := ⟨_, rfl⟩
                have hsf1 : same e f1 = false := by rw [← hf1]; exact y hp1
                obtain ⟨eb1, eo1, rfl, heb1, hqe1⟩ := q1 (by omega)
                have qv1 : ∀ x : BW wy, QAt x.v eb1 (eo1 + p1 * 5) f1 := by
                  have := (hqe1 p1 hp1).below heb1 (hb1.trans (hBY.out.mono hwB)); rw [hf1] at this; exact this.bw
                have hpi1 : (p1 : Int) < n1 := by omega
                clear hqe1 q1 q2 hf1 y
                go_upto_region 24 with fail
                refine wp_region_bw (by kernel_rfl) (by kernel_rfl) ?_
                repeat (go_big_quiet_step (fail))
                refine wpQuiet_nil ?_
                rintro wx ⟨⟨wz, hbwx⟩, hwz⟩
                have ewx : wx = wz := hwz
                clear hwz
                subst ewx
                clear qv1 hsf1 hss
                clear ov2
                go_wp2
                go_roundw
                case rel => exact ⟨i + 1, p0, p1, nt - 1, s8, by go_num, rfl, rfl, by first | go_num | (congr 1; rw [IntKind.wrap_i64]; omega), by omega, by omega, by omega, by omega, HQY.out.1.below hbwx, HQY.out.2, by rw [HC2.out.2.1]; exact HL.out.1, by rw [HC2.out.2.2]; exact HL.out.2.1, by have := HC2.out.1; have := HL.out.2.2; omega, hBY.out.trans (hbwx.mono (by rw [← HB.out]; exact hBY.out.size))⟩
                case measure => simp [intOf]; omega
              · have hpi1 : ¬ (p1 : Int) < n1 := by omega
                clear q1 q2 y
                go_upto_region 24 with fail
                refine wp_region_bw (by kernel_rfl) (by kernel_rfl) ?_
                repeat (go_big_quiet_step (fail))
                refine wpQuiet_nil ?_
                rintro wx ⟨⟨wz, hbwx⟩, hwz⟩
                have ewx : wx = wz := hwz
                clear hwz
                subst ewx
                clear hss
                clear ov2
                go_wp2
                go_roundw
                case rel => exact ⟨i + 1, p0, p1, nt - 1, s8, by go_num, rfl, rfl, by first | go_num | (congr 1; rw [IntKind.wrap_i64]; omega), by omega, by omega, by omega, by omega, HQY.out.1.below hbwx, HQY.out.2, by rw [HC2.out.2.1]; exact HL.out.1, by rw [HC2.out.2.2]; exact HL.out.2.1, by have := HC2.out.1; have := HL.out.2.2; omega, hBY.out.trans (hbwx.mono (by rw [← HB.out]; exact hBY.out.size))⟩
                case measure => simp [intOf]; omega
            · have hpi : ¬ (p0 : Int) < n0 := by omega
              clear z q0
              refine wp_region_bw (by kernel_rfl) (by kernel_rfl) ?_
              repeat (go_big_quiet_step (fail))
              refine wpQuiet_nil ?_
              rintro wy ⟨⟨wz, hbwy⟩, hwz⟩
              have ewy : wy = wz := hwz
              clear hwz
              subst ewy
              clear ov
              have ov2 : ∀ x : BW wy, QAt x.v gr 0 e := (oA.below oA.lt hbwy).bw
              have HQY : Hid (QSt wy B qb d s8 ∧ Hol F0 N (i + 1) s8) := ⟨HQA.out.1.below hbwy, HQA.out.2⟩
              have hBY : Hid (Below B w1 wy) := hBW.out.trans (hbwy.mono (by rw [← HB.out]; exact hBW.out.size))
              clear HQA hBW hbwy oA
              by_cases hp1 : p1 < n1
              · obtain ⟨f1, hf1⟩ : ∃ f, E1 p1 = f := ⟨_, rfl⟩
                have hsf1 : same e f1 = false := by rw [← hf1]; exact y hp1
                obtain ⟨eb1, eo1, rfl, heb1, hqe1⟩ := q1 (by omega)
                have qv1 : ∀ x : BW wy, QAt x.v eb1 (eo1 + p1 * 5) f1 := by
                  have := (hqe1 p1 hp1).below heb1 (hb1.trans (hBY.out.mono hwB)); rw [hf1] at this; exact this.bw
                have hpi1 : (p1 : Int) < n1 := by omega
                clear hqe1 q1 q2 hf1 y
                go_upto_region 24 with fail
                refine wp_region_bw (by kernel_rfl) (by kernel_rfl) ?_
                repeat (go_big_quiet_step (fail))
                refine wpQuiet_nil ?_
                rintro wx ⟨⟨wz, hbwx⟩, hwz⟩
                have ewx : wx = wz := hwz
                clear hwz
                subst ewx
                clear qv1 hsf1 hss
                clear ov2
                go_wp2
                go_roundw
                case rel => exact ⟨i + 1, p0, p1, nt - 1, s8, by go_num, rfl, rfl, by first | go_num | (congr 1; rw [IntKind.wrap_i64]; omega), by omega, by omega, by omega, by omega, HQY.out.1.below hbwx, HQY.out.2, by rw [HC2.out.2.1]; exact HL.out.1, by rw [HC2.out.2.2]; exact HL.out.2.1, by have := HC2.out.1; have := HL.out.2.2; omega, hBY.out.trans (hbwx.mono (by rw [← HB.out]; exact hBY.out.size))⟩
                case measure => simp [intOf]; omega
              · have hpi1 : ¬ (p1 : Int) < n1 := by omega
                clear q1 q2 y
                go_upto_region 24 with fail
                refine wp_region_bw (by kernel_rfl) (by kernel_rfl) ?_
                repeat (go_big_quiet_step (fail))
                refine wpQuiet_nil ?_
                rintro wx ⟨⟨wz, hbwx⟩, hwz⟩
                have ewx : wx = wz := hwz
                clear hwz
                subst ewx
                clear hss
                clear ov2
                go_wp2
                go_roundw
                case rel => exact ⟨i + 1, p0, p1, nt - 1, s8, by go_num, rfl, rfl, by first | go_num | (congr 1; rw [IntKind.wrap_i64]; omega), by omega, by omega, by omega, by omega, HQY.out.1.below hbwx, HQY.out.2, by rw [HC2.out.2.1]; exact HL.out.1, by rw [HC2.out.2.2]; exact HL.out.2.1, by have := HC2.out.1; have := HL.out.2.2; omega, hBY.out.trans (hbwx.mono (by rw [← HB.out]; exact hBY.out.size))⟩
                case measure => simp [intOf]; omega
        · obtain rfl : i = N := by omega
          have H0 : Hid (s.l0.n - s.l0.h = 0 ∧ s.l1.n - s.l1.h = 0 ∧ s.tm.n = 0) := HQ.out.2.empty
          have hnt0 : nt = 0 := by have := HL.out.2.2; have := H0.out.2.2; omega
          rw [hnt0] at tt
          clear HQ HL HLN j0 j1 X0 X1 hnt0
          go_wp2_with fail
          refine (zzlineLen_any qb 1 s.l0.a s.l0.n s.l0.c s.l0.h _ nb0 hl0 l0).mono ?_
          rintro r wb ⟨rfl, xb, hwb⟩
          rw [H0.out.1]
          subst hwb
          have bb1 : Below wr.heap.size wr (wr.drewN xb) := below_drewN (Below.refl _ _) xb
          have l1' := l1.below bb1
          have tt' := tt.below bb1
          have B1 : Hid (Below B w1 (wr.drewN xb)) := below_drewN hbel xb
          clear l0 l1 tt bb1 hbel hBw
          generalize wr.drewN xb = W1 at *
          go_wp2_with fail
          refine (zzlineLen_any qb 3 s.l1.a s.l1.n s.l1.c s.l1.h _ nb1 hl1 l1').mono ?_
          rintro r wb ⟨rfl, xc, hwb⟩
          rw [H0.out.2.1]
          subst hwb
          have bb1 : Below W1.heap.size W1 (W1.drewN xc) := below_drewN (Below.refl _ _) xc
          have tt2 := tt'.below bb1
          have B2 : Hid (Below B w1 (W1.drewN xc)) := below_drewN B1.out xc
          clear l1' tt' bb1 B1
          generalize W1.drewN xc = W2 at *
          clear H0
          go_wp2_with fail
          refine (queueTimed_any qb _ _ ⟨_, _, _, rfl⟩ tt2).mono ?_
          rintro r wa ⟨rfl, hwa⟩
          obtain rfl := hwa.symm
          go_wp2
          go_ret
          exact ⟨rfl, hb1.trans (B2.out.mono hwB)⟩

/-- THE WALK, WHOLE. -/
theorem follows_any (d : Int) (a0 : Option Addr) (n0 c0 : Nat) (h0 : Int) (E0 : Nat → Ev) (a1 : Option Addr) (n1 c1 : Nat) (h1 : Int) (E1 : Nat → Ev) (a2 : Option Addr) (n2 c2 : Nat) (E2 : Nat → Ev) (w : World) (m0 : n0 ≤ 9223372036854775807) (m1 : n1 ≤ 9223372036854775807) (m2 : n2 ≤ 9223372036854775807)
    (q0 : QSl w w.heap.size a0 n0 E0) (q1 : QSl w w.heap.size a1 n1 E1) (q2 : QSl w w.heap.size a2 n2 E2) (z0 : a0 = none → n0 = 0 ∧ c0 = 0) (z1 : a1 = none → n1 = 0 ∧ c1 = 0) (z2 : a2 = none → n2 = 0 ∧ c2 = 0) :
    Calls Try.prog 6 #[.int .u64 d, .slice a0 n0 c0, .int .i64 h0, .slice a1 n1 c1, .int .i64 h1, .slice a2 n2 c2] w fun r w' => r = .returned (.bool true) ∧ Below w.heap.size w w' := by
  by_cases hn : n0 + n1 + n2 ≤ 26214
  · exact follows_in d a0 n0 c0 h0 E0 a1 n1 c1 h1 E1 a2 n2 c2 E2 w hn q0 q1 q2 z0 z1 z2
  · exact follows_out d a0 n0 c0 h0 a1 n1 c1 h1 a2 n2 c2 w m0 m1 m2 (by omega)
end Go.Proofs.Qxb6613083a
