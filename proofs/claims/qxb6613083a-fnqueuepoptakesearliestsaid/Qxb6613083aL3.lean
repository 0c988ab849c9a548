/-
  THE WALK of FnQueuePopTakesEarliest.
-/
import Derived.Test.Qxb6613083aP6
namespace Go.Proofs.Qxb6613083a
open Go.RowKit Go.BigFrame
attribute [local go_sem ↓] eql29 neq29

set_option maxHeartbeats 1000000 in
set_option maxRecDepth 100000 in
theorem earliest_out (d : Int) (a0 : Option Addr) (n0 c0 : Nat) (h0 : Int) (a1 : Option Addr) (n1 c1 : Nat) (h1 : Int) (a2 : Option Addr) (n2 c2 : Nat) (w : World) (m0 : n0 ≤ 9223372036854775807) (m1 : n1 ≤ 9223372036854775807) (m2 : n2 ≤ 9223372036854775807) (hout : 26214 < n0 + n1 + n2) :
    Calls Try.prog 3 #[.int .u64 d, .slice a0 n0 c0, .int .i64 h0, .slice a1 n1 c1, .int .i64 h1, .slice a2 n2 c2] w fun r w' => r = .returned (.bool true) ∧ Below w.heap.size w w' := by
  go_enter Try.func3, Try.ntmps3
  go_wp2_with fail
  refine (bytes8_any d a0 n0 c0 h0 a1 n1 c1 h1 a2 n2 c2 _ m0 m1 m2).mono ?_
  rintro r w1 ⟨b, rfl, hw⟩
  have hw' := hw.symm
  subst hw'
  cases b with
  | false =>
    go_wp2
    go_ret
    exact ⟨rfl, Below.refl _ _⟩
  | true =>
    by_cases g0 : 32768 < n0
    · have i0 : (32768 : Int) < n0 := by omega
      go_wp2
      go_ret
      exact ⟨rfl, Below.refl _ _⟩
    · have i0 : ¬ (32768 : Int) < n0 := by omega
      by_cases g1 : 32768 < n1
      · have i1 : (32768 : Int) < n1 := by omega
        go_wp2
        go_ret
        exact ⟨rfl, Below.refl _ _⟩
      · have i1 : ¬ (32768 : Int) < n1 := by omega
        by_cases g2 : 32768 < n2
        · have i2 : (32768 : Int) < n2 := by omega
          go_wp2
          go_ret
          exact ⟨rfl, Below.refl _ _⟩
        · have i2 : ¬ (32768 : Int) < n2 := by omega
          have i3 : (1048576 : Int) < 40 * ((n0 : Int) + n1 + n2) := by omega
          go_wp2
          go_ret
          exact ⟨rfl, Below.refl _ _⟩

set_option maxHeartbeats 4000000 in
set_option maxRecDepth 100000 in
theorem earliest_in (d : Int) (a0 : Option Addr) (n0 c0 : Nat) (h0 : Int) (E0 : Nat → Ev) (a1 : Option Addr) (n1 c1 : Nat) (h1 : Int) (E1 : Nat → Ev) (a2 : Option Addr) (n2 c2 : Nat) (E2 : Nat → Ev) (w : World) (hn : n0 + n1 + n2 ≤ 26214)
    (q0 : QSl w w.heap.size a0 n0 E0) (q1 : QSl w w.heap.size a1 n1 E1) (q2 : QSl w w.heap.size a2 n2 E2) (cc0 : n0 ≤ c0) (cc1 : n1 ≤ c1) (z0 : a0 = none → n0 = 0 ∧ c0 = 0) (z1 : a1 = none → n1 = 0 ∧ c1 = 0) (z2 : a2 = none → n2 = 0 ∧ c2 = 0) :
    Calls Try.prog 3 #[.int .u64 d, .slice a0 n0 c0, .int .i64 h0, .slice a1 n1 c1, .int .i64 h1, .slice a2 n2 c2] w fun r w' => r = .returned (.bool true) ∧ Below w.heap.size w w' := by
  have i0 : ¬ (32768 : Int) < n0 := by omega
  have i1 : ¬ (32768 : Int) < n1 := by omega
  have i2 : ¬ (32768 : Int) < n2 := by omega
  have i3 : ¬ (1048576 : Int) < 40 * ((n0 : Int) + n1 + n2) := by omega
  go_enter Try.func3, Try.ntmps3
  go_wp2_with fail
  refine (bytes8_any d a0 n0 c0 h0 a1 n1 c1 h1 a2 n2 c2 _ (by omega) (by omega) (by omega)).mono ?_
  rintro r w1 ⟨b, rfl, hw⟩
  have hw' := hw.symm
  subst hw'
  cases b with
  | false =>
    go_wp2
    go_ret
    exact ⟨rfl, Below.refl _ _⟩
  | true =>
    go_wp2_with fail
    refine (queueOK_any a0 n0 c0 h0 E0 a1 n1 c1 h1 E1 a2 n2 c2 E2 _ (by omega) q0 q1 q2).mono ?_
    rintro r w1 ⟨ok, rfl, hok, hb1⟩
    cases ok with
    | false =>
      clear hok
      go_wp2
      go_ret
      exact ⟨rfl, hb1⟩
    | true =>
      obtain ⟨k0, k1, rfl, rfl, hk0, hk1, p0, p1, hhp, F0, hpm0, hst0⟩ := (hok rfl).open_
      obtain ⟨N, HN⟩ : ∃ N : Nat, Hid (n0 - k0 + (n1 - k1) + n2 = N) := ⟨_, rfl⟩
      rw [HN.out] at hpm0 hst0
      have hN : N ≤ 26214 := by have := HN.out; omega
      have HP : Hid (LineP n0 E0 k0 ∧ LineP n1 E1 k1 ∧ HeapP E2 n2 ∧ (seg F0 0 N).Perm (liveL n0 k0 E0 n1 k1 E1 n2 E2) ∧ Strict F0 N) := ⟨p0, p1, hhp, hpm0, hst0⟩
      clear hok p0 p1 hhp hpm0 hst0
      go_wp2_with fail
      refine (live_any a0 n0 c0 k0 E0 a1 n1 c1 k1 E1 a2 n2 c2 E2 _ (by omega) (by omega) (by omega) ((q0.below hb1).mono hb1.size) ((q1.below hb1).mono hb1.size) ((q2.below hb1).mono hb1.size)).mono ?_
      rw [HN.out]
      rintro r w2 ⟨g, cap, L, rfl, hg, rowL, hsegL, hb2⟩
      have hb12 := hb1.trans (hb2.mono hb1.size)
      go_wp2_with fail
      refine (sort_any _ N cap L _ (by omega) rowL.sl).mono ?_
      rintro r w3 ⟨g2, F, rfl, hg2, rowF, hpmF, hsrtF, hb3⟩
      have hb13 := hb12.trans (hb3.mono hb12.size)
      have hpm : (seg F 0 N).Perm (liveL n0 k0 E0 n1 k1 E1 n2 E2) := by rw [hsegL] at hpmF; exact hpmF
      have hst : Strict F N := strict_of_srt HP.out.2.2.2.2 (hpm.trans HP.out.2.2.2.1.symm) hsrtF
      have HF : Hid ((seg F 0 N).Perm (liveL n0 k0 E0 n1 k1 E1 n2 E2) ∧ Strict F N) := ⟨hpm, hst⟩
      clear hsegL hpmF hsrtF rowL hb1 hb2 hb12 hb3 hpm hst hg hg2
      have hb1w := hb13
      by_cases hN0 : N = 0
      · subst hN0
        go_wp2
        go_ret
        exact ⟨rfl, hb13⟩
      · have hNp : (0 : Int) < N := by omega
        have hNz : ¬ (N : Int) = 0 := by omega
        obtain ⟨e, HE⟩ : ∃ e, Hid (F 0 = e) := ⟨_, rfl⟩
        have qf : QAt w3 g2 0 e := by have := rowF.at_ 0 (by omega); rwa [HE.out, Nat.zero_mul] at this
        obtain ⟨y0, y1, y2, y3, y4⟩ := qf
        clear rowF
        go_upto_region 14 with fail
        have bA : Below w3.heap.size w3 (w3.alloc (.cells #[.int .u64 e.hi, .int .u64 e.lo, .int .u64 e.ord, .int .u8 e.kind, .int .i64 e.user] 29)) := (Below.refl _ _).alloc (Nat.le_refl _) _
        have oA := oneQ w3 e
        have hW : Hid (Below w.heap.size w (w3.alloc (.cells #[.int .u64 e.hi, .int .u64 e.lo, .int .u64 e.ord, .int .u8 e.kind, .int .i64 e.user] 29))) := hb13.trans (bA.mono hb13.size)
        clear bA y0 y1 y2 y3 y4 hb13 hb1w
        generalize w3.alloc (.cells #[.int .u64 e.hi, .int .u64 e.lo, .int .u64 e.ord, .int .u8 e.kind, .int .i64 e.user] 29) = W at *
        obtain ⟨gw, hgw⟩ : ∃ gr, w3.heap.size = gr := ⟨_, rfl⟩
        rw [hgw] at oA ⊢
        clear hgw
        obtain ⟨t0, HT0⟩ : ∃ t, Hid (t = (decide (k0 < n0) && same (E0 k0) e)) := ⟨_, rfl⟩
        obtain ⟨t1, HT1⟩ : ∃ t, Hid (t = (decide (k1 < n1) && same (E1 k1) e)) := ⟨_, rfl⟩
        go_cut [82] (fun v wx => v = .bool t0 ∧ Below W.heap.size W wx)
        case first =>
          have ov : ∀ x : BW W, QAt x.v gw 0 e := oA.bw
          by_cases hp : k0 < n0
          · obtain ⟨f, hf⟩ : ∃ f, E0 k0 = f := ⟨_, rfl⟩
            obtain ⟨eb, eo, rfl, heb, hqe⟩ := q0 (by omega)
            have qv : ∀ x : BW W, QAt x.v eb (eo + k0 * 5) f := by
              have := (hqe k0 hp).below heb (hW.out); rw [hf] at this; exact this.bw
            have hpi : (k0 : Int) < n0 := by omega
            cases hsf : same f e with
            | true =>
              have ht0 : t0 = true := by rw [HT0.out]; simp [hp, hf, hsf]
              have ht : Hid (t0 = true) := ht0
              clear ht0
              clear hqe hf q0 q1 q2
              refine wp_region_bw (by kernel_rfl) (by kernel_rfl) ?_
              repeat (go_big_quiet_step (fail))
              refine wpQuiet_nil ?_
              rintro wy ⟨⟨wz, hbwy⟩, hwz⟩
              have ewy : wy = wz := hwz
              clear hwz
              subst ewy
              go_wp2
              go_meet
              exact ⟨by rw [ht.out], hbwy⟩
            | false =>
              have ht0 : t0 = false := by rw [HT0.out]; simp [hf, hsf]
              have ht : Hid (t0 = false) := ht0
              clear ht0
              clear hqe hf q0 q1 q2
              refine wp_region_bw (by kernel_rfl) (by kernel_rfl) ?_
              repeat (go_big_quiet_step (fail))
              refine wpQuiet_nil ?_
              rintro wy ⟨⟨wz, hbwy⟩, hwz⟩
              have ewy : wy = wz := hwz
              clear hwz
              subst ewy
              go_wp2
              go_meet
              exact ⟨by rw [ht.out], hbwy⟩
          · have hpi : ¬ (k0 : Int) < n0 := by omega
            have ht0 : t0 = false := by rw [HT0.out]; simp [hp]
            have ht : Hid (t0 = false) := ht0
            clear ht0
            clear q0 q1 q2
            refine wp_region_bw (by kernel_rfl) (by kernel_rfl) ?_
            repeat (go_big_quiet_step (fail))
            refine wpQuiet_nil ?_
            rintro wy ⟨⟨wz, hbwy⟩, hwz⟩
            have ewy : wy = wz := hwz
            clear hwz
            subst ewy
            go_wp2
            go_meet
            exact ⟨by rw [ht.out], hbwy⟩
        case rest =>
          obtain ⟨rfl, hbc⟩ := hcut
          have oB := oA.below oA.lt hbc
          have hW2 : Hid (Below w.heap.size w wc) := hW.out.trans (hbc.mono hW.out.size)
          clear oA hW hbc
          generalize wc = W2 at *
          go_upto_if 82 with fail
          obtain ⟨src, HSR⟩ : ∃ s : Nat, Hid (s = if t0 = true then 0 else if t1 = true then 1 else 2) := ⟨_, rfl⟩
          go_cut [15] (fun v wx => v = .int .i64 src ∧ Below W2.heap.size W2 wx)
          case first =>
            have ov : ∀ x : BW W2, QAt x.v gw 0 e := oB.bw
            cases t0 with
            | true =>
              have HS : Hid (src = 0) := HSR.out
              go_wp2
              go_meet
              exact ⟨by rw [HS.out]; rfl, Below.refl _ _⟩
            | false =>
              go_upto_region 16 with fail
              by_cases hp : k1 < n1
              · obtain ⟨f, hf⟩ : ∃ f, E1 k1 = f := ⟨_, rfl⟩
                obtain ⟨eb, eo, rfl, heb, hqe⟩ := q1 (by omega)
                have qv : ∀ x : BW W2, QAt x.v eb (eo + k1 * 5) f := by
                  have := (hqe k1 hp).below heb (hW2.out); rw [hf] at this; exact this.bw
                have hpi : (k1 : Int) < n1 := by omega
                cases hsf : same f e with
                | true =>
                  have ht0 : t1 = true := by rw [HT1.out]; simp [hp, hf, hsf]
                  have ht : Hid (t1 = true) := ht0
                  clear ht0
                  clear hqe hf q0 q1 q2
                  refine wp_region_bw (by kernel_rfl) (by kernel_rfl) ?_
                  repeat (go_big_quiet_step (fail))
                  refine wpQuiet_nil ?_
                  rintro wy ⟨⟨wz, hbwy⟩, hwz⟩
                  have ewy : wy = wz := hwz
                  clear hwz
                  subst ewy
                  go_wp2
                  go_meet
                  exact ⟨by rw [HSR.out, ht.out]; rfl, hbwy⟩
                | false =>
                  have ht0 : t1 = false := by rw [HT1.out]; simp [hf, hsf]
                  have ht : Hid (t1 = false) := ht0
                  clear ht0
                  clear hqe hf q0 q1 q2
                  refine wp_region_bw (by kernel_rfl) (by kernel_rfl) ?_
                  repeat (go_big_quiet_step (fail))
                  refine wpQuiet_nil ?_
                  rintro wy ⟨⟨wz, hbwy⟩, hwz⟩
                  have ewy : wy = wz := hwz
                  clear hwz
                  subst ewy
                  go_wp2
                  go_meet
                  exact ⟨by rw [HSR.out, ht.out]; rfl, hbwy⟩
              · have hpi : ¬ (k1 : Int) < n1 := by omega
                have ht0 : t1 = false := by rw [HT1.out]; simp [hp]
                have ht : Hid (t1 = false) := ht0
                clear ht0
                clear q0 q1 q2
                refine wp_region_bw (by kernel_rfl) (by kernel_rfl) ?_
                repeat (go_big_quiet_step (fail))
                refine wpQuiet_nil ?_
                rintro wy ⟨⟨wz, hbwy⟩, hwz⟩
                have ewy : wy = wz := hwz
                clear hwz
                subst ewy
                go_wp2
                go_meet
                exact ⟨by rw [HSR.out, ht.out]; rfl, hbwy⟩
          case rest =>
            obtain ⟨rfl, hbd⟩ := hcut
            have oC : QAt wc gw 0 e := oB.below oB.lt hbd
            have hwd : Hid (Below w.heap.size w wc) := hW2.out.trans (hbd.mono hW2.out.size)
            clear oB hW2 hbd
            generalize wc = W3 at *
            have q0' := (q0.below hwd.out).mono hwd.out.size
            have q1' := (q1.below hwd.out).mono hwd.out.size
            have q2' := (q2.below hwd.out).mono hwd.out.size
            go_wp2_with fail
            refine (toEvents_all a0 n0 c0 E0 _ (by omega) q0' z0).mono ?_
            rintro r w4 ⟨b0, rfl, t0', hb4⟩
            have hb34 := hb4
            go_wp2_with fail
            refine (toEvents_all a1 n1 c1 E1 _ (by omega) ((q1'.below hb34).mono hb34.size) z1).mono ?_
            rintro r w5 ⟨b1, rfl, t1', hb5⟩
            have hb35 := hb34.trans (hb5.mono hb34.size)
            go_wp2_with fail
            refine (toEvents_all a2 n2 c2 E2 _ (by omega) ((q2'.below hb35).mono hb35.size) z2).mono ?_
            rintro r w6 ⟨b2, rfl, t2', hb6⟩
            have hb36 := hb35.trans (hb6.mono hb35.size)
            go_wp2_with fail
            refine (newQueue_any d b0 n0 n0 k0 b1 n1 n1 k1 b2 n2 n2 _).mono ?_
            rintro r w7 ⟨rfl, hd, l0, l1, tm, hb7⟩
            have hb37 := hb36.trans (hb7.mono hb36.size)
            obtain ⟨s, qs, e0, e1, e2⟩ := QSt.make (B := W3.heap.size) (Nat.le_refl _) t0' hb4.size t1' hb5 t2' hb6 hd l0 l1 tm hb7 (by omega) (by omega) (by omega) hk0 hk1 HP.out.2.2.1
            have HOL : Hid (Hol F N 0 s) := Hol.made HP.out.1 HP.out.2.1 HF.out.1 e0 e1 e2
            have HL : Hid (s.l0.live = seg E0 k0 (n0 - k0) ∧ s.l1.live = seg E1 k1 (n1 - k1) ∧ s.l0.clr ∧ s.l1.clr ∧ s.tm.n = n2 ∧ s.tm.E = E2) := ⟨by unfold Ln.live; rw [e0.1, e0.2.1, e0.2.2], by unfold Ln.live; rw [e1.1, e1.2.1, e1.2.2], by unfold Ln.clr; rw [e0.2.1, e0.2.2]; exact HP.out.1.clr, by unfold Ln.clr; rw [e1.2.1, e1.2.2]; exact HP.out.2.1.clr, e2.1, e2.2⟩
            clear e0 e1 e2 t0' t1' t2' hd l0 l1 tm hb4 hb5 hb6 hb7 hb34 hb35 hb36 q0' q1' q2' HP i0 i1 i2 i3
            obtain ⟨qb, hqb⟩ : ∃ qb, w6.heap.size = qb := ⟨_, rfl⟩
            rw [hqb] at qs ⊢
            clear hqb
            obtain ⟨B, HB⟩ : ∃ B, Hid (W3.heap.size = B) := ⟨_, rfl⟩
            have hgB : gw < B := by rw [← HB.out]; exact oC.lt
            rw [HB.out] at qs hb37
            have hwB : w.heap.size ≤ B := by rw [← HB.out]; exact hwd.out.size
            have hB7 : B ≤ w7.heap.size := by rw [← HB.out]; exact hb37.size
            have C : Hid (Calls Try.prog 15 #[.pointer (some ⟨qb, 0, none⟩)] w7 fun r w' => ∃ s', r = .returned (.agg #[.int .u64 e.hi, .int .u64 e.lo, .int .u64 e.ord, .int .u8 e.kind, .int .i64 e.user, .pointer none, .pointer none]) ∧ QSt w' B qb d s' ∧ Hol F N (0 + 1) s' ∧ Step s s' e ∧ Below B w7 w') := by
              rw [← HE.out]; exact qpop_next B qb d s F N 0 HF.out.2 (by omega) HOL.out w7 qs hB7
            have HQS : Hid (HeapP s.tm.E s.tm.n) := qs.qt.heap
            clear qs
            go_wp2_with fail
            refine C.out.mono ?_
            rintro r w8 ⟨s8, rfl, q8, h8, st8, hb8⟩
            have hb38 : Below B W3 w8 := hb37.trans hb8
            have hB8 : B ≤ w8.heap.size := by rw [← HB.out]; exact hb38.size
            have SRC : Hid (Src n0 k0 E0 n1 k1 E1 s s8 e) := st8.src (Qs.apart HF.out.2 (by omega) HOL.out.live) HL.out.1 HL.out.2.1
            have HAP : Hid ((seg E2 0 n2).Pairwise Apart ∧ ∀ x, x ∈ seg E2 0 n2 → bef x e = false) := by
              have ha := Qs.apart_tm (Qs.apart HF.out.2 (by omega) HOL.out.live)
              have hl := st8.1.all HOL.out.s0 HOL.out.s1 HQS.out
              rw [HL.out.2.2.2.2.1, HL.out.2.2.2.2.2] at ha
              refine ⟨ha, fun x hx => hl x ?_⟩
              unfold Qs.live Tm.live
              rw [HL.out.2.2.2.2.1, HL.out.2.2.2.2.2]
              exact List.mem_append_right _ hx
            clear C hb8 hb37 hB7 st8 HQS
            go_wp2_with fail
            refine (fromEvent_any e _).mono ?_
            rintro r w9 ⟨rfl, hb9⟩
            go_upto_region 20 with fail
            have bA : Below w9.heap.size w9 (w9.alloc (.cells #[.int .u64 e.hi, .int .u64 e.lo, .int .u64 e.ord, .int .u8 e.kind, .int .i64 e.user] 29)) := (Below.refl _ _).alloc (Nat.le_refl _) _
            have bAll := hb9.trans (bA.mono hb9.size)
            have oG := oneQ w9 e
            have qV : Hid (QSt (w9.alloc (.cells #[.int .u64 e.hi, .int .u64 e.lo, .int .u64 e.ord, .int .u8 e.kind, .int .i64 e.user] 29)) B qb d s8 ∧ Hol F N (0 + 1) s8) := ⟨q8.below bAll, h8⟩
            have oW : QAt (w9.alloc (.cells #[.int .u64 e.hi, .int .u64 e.lo, .int .u64 e.ord, .int .u8 e.kind, .int .i64 e.user] 29)) gw 0 e := oC.below hgB (hb38.trans (bAll.mono hB8))
            have bV : Hid (Below w.heap.size w (w9.alloc (.cells #[.int .u64 e.hi, .int .u64 e.lo, .int .u64 e.ord, .int .u8 e.kind, .int .i64 e.user] 29))) := hwd.out.trans ((hb38.trans (bAll.mono hB8)).mono hwB)
            clear bA bAll q8 h8 oC hb38 hb9 hB8 hwd
            generalize w9.alloc (.cells #[.int .u64 e.hi, .int .u64 e.lo, .int .u64 e.ord, .int .u8 e.kind, .int .i64 e.user] 29) = V at *
            obtain ⟨gr, hgr⟩ : ∃ gr, w9.heap.size = gr := ⟨_, rfl⟩
            rw [hgr] at oG ⊢
            clear hgr
            have hss := same_self e
            obtain ⟨x0, x1, x2, x3, x4⟩ := oG
            obtain ⟨y0, y1, y2, y3, y4⟩ := oW
            have hdl := qV.out.1.d
            go_wp2_with fail
            refine (queueDelay_any qb d _ hdl).mono ?_
            rintro r wa ⟨rfl, hwa⟩
            obtain rfl := hwa.symm
            clear x0 x1 x2 x3 x4 y0 y1 y2 y3 y4 hdl hss
            rcases Src.num SRC.out HT0.out HT1.out HSR.out with ⟨hs, hp, hL0, hL1, hT, hP⟩ | ⟨hs, hp, hL1, hL0, hT, hP⟩ | ⟨hs, hL0, hL1, hT⟩
            · have hsrc : (src : Int) = 0 := by omega
              have I0 : Hid (s8.l0.clr ∧ k0 < n0 ∧ s8.l0.live = seg E0 (k0 + 1) (n0 - (k0 + 1))) := ⟨hP.clr HL.out.2.2.1, hp, hL0⟩
              have I1 : Hid (s8.l1.clr ∧ s8.l1.live = seg E1 k1 (n1 - k1)) := ⟨by rw [hL1]; exact HL.out.2.2.2.1, by rw [hL1]; exact HL.out.2.1⟩
              have IT : Hid (s8.tm.n = n2 ∧ s8.tm.E = E2) := by rw [hT]; exact HL.out.2.2.2.2
              clear hs hL0 hL1 hT SRC HT0 HT1 HSR HL hP hp
              rw [hsrc]
              clear hsrc
              go_wp2_with fail
              refine (queueLine0 qb _).mono ?_
              rintro r wa ⟨rfl, hwa⟩
              obtain rfl := hwa.symm
              go_wp2_with fail
              refine (lineAfter_any qb 1 s8.l0 _ qV.out.1.q0 I0.out.1 qV.out.2.s0 a0 n0 c0 k0 E0 cc0 ((q0.below bV.out).mono bV.out.size) z0 (by omega) true (fun h => by cases h) (fun _ => I0.out.2)).mono ?_
              rintro r V1 ⟨rfl, hv1⟩
              have qV1 : Hid (QSt V1 B qb d s8 ∧ Hol F N (0 + 1) s8) := ⟨qV.out.1.below hv1, qV.out.2⟩
              have bV1 : Hid (Below w.heap.size w V1) := bV.out.trans (hv1.mono bV.out.size)
              clear hv1 bV qV I0
              go_wp2_with fail
              refine (queueLine1 qb _).mono ?_
              rintro r wa ⟨rfl, hwa⟩
              obtain rfl := hwa.symm
              go_wp2_with fail
              refine (lineAfter_any qb 3 s8.l1 _ qV1.out.1.q1 I1.out.1 qV1.out.2.s1 a1 n1 c1 k1 E1 cc1 ((q1.below bV1.out).mono bV1.out.size) z1 (by omega) false (fun _ => I1.out.2) (fun h => by cases h)).mono ?_
              rintro r V2 ⟨rfl, hv2⟩
              have qV2 : Hid (QSt V2 B qb d s8) := qV1.out.1.below hv2
              have bV2 : Hid (Below w.heap.size w V2) := bV1.out.trans (hv2.mono bV1.out.size)
              clear hv2 bV1 qV1 I1
              go_wp2_with fail
              refine (queueTimed_any qb _ _ ⟨_, _, _, rfl⟩ qV2.out.qt.at_).mono ?_
              rintro r wa ⟨rfl, hwa⟩
              obtain rfl := hwa.symm
              have hmb : s8.tm.n ≤ 1048576 := Nat.le_trans qV2.out.qt.nc qV2.out.qt.cb
              have HPP : Hid (HeapP s8.tm.E s8.tm.n) := qV2.out.qt.heap
              go_wp2_with fail
              refine (fromEvents_any s8.tm.a s8.tm.b s8.tm.n s8.tm.c s8.tm.E _ hmb qV2.out.qt.row).mono ?_
              rintro r V3 ⟨g3, rfl, hg3, row3, hv3⟩
              have bV3 : Hid (Below w.heap.size w V3) := bV2.out.trans (hv3.mono bV2.out.size)
              clear hg3 hv3 bV2 qV2
              go_wp2_with fail
              refine (heapOK_any _ s8.tm.n s8.tm.n s8.tm.E _ hmb row3.sl).mono ?_
              rintro r V4 ⟨ok, rfl, hok, hv4⟩
              obtain rfl : ok = true := hok.2 HPP.out
              have row4 := row3.below hv4
              have bV4 : Hid (Below w.heap.size w V4) := bV3.out.trans (hv4.mono bV3.out.size)
              clear hok HPP hv4 bV3 row3
              go_wp2_with fail
              refine (sort_any a2 n2 c2 E2 _ (by omega) ((q2.below bV4.out).mono bV4.out.size)).mono ?_
              rintro r V5 ⟨g4, F2, rfl, hg4, rowS, pS, sS, hv5⟩
              have row5 := row4.below hv5
              have bV5 : Hid (Below w.heap.size w V5) := bV4.out.trans (hv5.mono bV4.out.size)
              have HS2 : Hid ((seg F2 0 n2).Perm (seg E2 0 n2) ∧ Srt F2 0 n2) := ⟨pS, sS⟩
              clear hg4 pS sS hv5 row4 bV4 q0 q1 q2
              go_wp2_with fail
              refine (sort_any _ s8.tm.n s8.tm.n s8.tm.E _ hmb row5.sl).mono ?_
              rintro r V6 ⟨g5, F3, rfl, hg5, rowT, pT, sT, hv6⟩
              have row6 := rowS.below hv6
              have HS3 : Hid (∀ i, i < s8.tm.n → F3 i = F2 i) := by
                rw [IT.out.1, IT.out.2] at pT
                rw [IT.out.1] at sT
                rw [IT.out.1]
                exact sorted_same HAP.out.1 pT sT HS2.out.1 HS2.out.2
              have bV6 : Hid (Below w.heap.size w V6) := bV5.out.trans (hv6.mono bV5.out.size)
              clear pT sT hv6 rowS row5 bV5
              go_wp2_with fail
              refine (sameList_eq _ s8.tm.n _ F3 _ n2 _ F2 _ hmb IT.out.1 rowT.sl row6.sl HS3.out).mono ?_
              rintro r V7 ⟨rfl, hv7⟩
              go_wp2
              go_ret
              exact ⟨rfl, bV6.out.trans (hv7.mono bV6.out.size)⟩
            · have hsrc : (src : Int) = 1 := by omega
              have I0 : Hid (s8.l0.clr ∧ s8.l0.live = seg E0 k0 (n0 - k0)) := ⟨by rw [hL0]; exact HL.out.2.2.1, by rw [hL0]; exact HL.out.1⟩
              have I1 : Hid (s8.l1.clr ∧ k1 < n1 ∧ s8.l1.live = seg E1 (k1 + 1) (n1 - (k1 + 1))) := ⟨hP.clr HL.out.2.2.2.1, hp, hL1⟩
              have IT : Hid (s8.tm.n = n2 ∧ s8.tm.E = E2) := by rw [hT]; exact HL.out.2.2.2.2
              clear hs hL0 hL1 hT SRC HT0 HT1 HSR HL hP hp
              rw [hsrc]
              clear hsrc
              go_wp2_with fail
              refine (queueLine0 qb _).mono ?_
              rintro r wa ⟨rfl, hwa⟩
              obtain rfl := hwa.symm
              go_wp2_with fail
              refine (lineAfter_any qb 1 s8.l0 _ qV.out.1.q0 I0.out.1 qV.out.2.s0 a0 n0 c0 k0 E0 cc0 ((q0.below bV.out).mono bV.out.size) z0 (by omega) false (fun _ => I0.out.2) (fun h => by cases h)).mono ?_
              rintro r V1 ⟨rfl, hv1⟩
              have qV1 : Hid (QSt V1 B qb d s8 ∧ Hol F N (0 + 1) s8) := ⟨qV.out.1.below hv1, qV.out.2⟩
              have bV1 : Hid (Below w.heap.size w V1) := bV.out.trans (hv1.mono bV.out.size)
              clear hv1 bV qV I0
              go_wp2_with fail
              refine (queueLine1 qb _).mono ?_
              rintro r wa ⟨rfl, hwa⟩
              obtain rfl := hwa.symm
              go_wp2_with fail
              refine (lineAfter_any qb 3 s8.l1 _ qV1.out.1.q1 I1.out.1 qV1.out.2.s1 a1 n1 c1 k1 E1 cc1 ((q1.below bV1.out).mono bV1.out.size) z1 (by omega) true (fun h => by cases h) (fun _ => I1.out.2)).mono ?_
              rintro r V2 ⟨rfl, hv2⟩
              have qV2 : Hid (QSt V2 B qb d s8) := qV1.out.1.below hv2
              have bV2 : Hid (Below w.heap.size w V2) := bV1.out.trans (hv2.mono bV1.out.size)
              clear hv2 bV1 qV1 I1
              go_wp2_with fail
              refine (queueTimed_any qb _ _ ⟨_, _, _, rfl⟩ qV2.out.qt.at_).mono ?_
              rintro r wa ⟨rfl, hwa⟩
              obtain rfl := hwa.symm
              have hmb : s8.tm.n ≤ 1048576 := Nat.le_trans qV2.out.qt.nc qV2.out.qt.cb
              have HPP : Hid (HeapP s8.tm.E s8.tm.n) := qV2.out.qt.heap
              go_wp2_with fail
              refine (fromEvents_any s8.tm.a s8.tm.b s8.tm.n s8.tm.c s8.tm.E _ hmb qV2.out.qt.row).mono ?_
              rintro r V3 ⟨g3, rfl, hg3, row3, hv3⟩
              have bV3 : Hid (Below w.heap.size w V3) := bV2.out.trans (hv3.mono bV2.out.size)
              clear hg3 hv3 bV2 qV2
              go_wp2_with fail
              refine (heapOK_any _ s8.tm.n s8.tm.n s8.tm.E _ hmb row3.sl).mono ?_
              rintro r V4 ⟨ok, rfl, hok, hv4⟩
              obtain rfl : ok = true := hok.2 HPP.out
              have row4 := row3.below hv4
              have bV4 : Hid (Below w.heap.size w V4) := bV3.out.trans (hv4.mono bV3.out.size)
              clear hok HPP hv4 bV3 row3
              go_wp2_with fail
              refine (sort_any a2 n2 c2 E2 _ (by omega) ((q2.below bV4.out).mono bV4.out.size)).mono ?_
              rintro r V5 ⟨g4, F2, rfl, hg4, rowS, pS, sS, hv5⟩
              have row5 := row4.below hv5
              have bV5 : Hid (Below w.heap.size w V5) := bV4.out.trans (hv5.mono bV4.out.size)
              have HS2 : Hid ((seg F2 0 n2).Perm (seg E2 0 n2) ∧ Srt F2 0 n2) := ⟨pS, sS⟩
              clear hg4 pS sS hv5 row4 bV4 q0 q1 q2
              go_wp2_with fail
              refine (sort_any _ s8.tm.n s8.tm.n s8.tm.E _ hmb row5.sl).mono ?_
              rintro r V6 ⟨g5, F3, rfl, hg5, rowT, pT, sT, hv6⟩
              have row6 := rowS.below hv6
              have HS3 : Hid (∀ i, i < s8.tm.n → F3 i = F2 i) := by
                rw [IT.out.1, IT.out.2] at pT
                rw [IT.out.1] at sT
                rw [IT.out.1]
                exact sorted_same HAP.out.1 pT sT HS2.out.1 HS2.out.2
              have bV6 : Hid (Below w.heap.size w V6) := bV5.out.trans (hv6.mono bV5.out.size)
              clear pT sT hv6 rowS row5 bV5
              go_wp2_with fail
              refine (sameList_eq _ s8.tm.n _ F3 _ n2 _ F2 _ hmb IT.out.1 rowT.sl row6.sl HS3.out).mono ?_
              rintro r V7 ⟨rfl, hv7⟩
              go_wp2
              go_ret
              exact ⟨rfl, bV6.out.trans (hv7.mono bV6.out.size)⟩
            · have hsrc : (src : Int) = 2 := by omega
              have I0 : Hid (s8.l0.clr ∧ s8.l0.live = seg E0 k0 (n0 - k0)) := ⟨by rw [hL0]; exact HL.out.2.2.1, by rw [hL0]; exact HL.out.1⟩
              have I1 : Hid (s8.l1.clr ∧ s8.l1.live = seg E1 k1 (n1 - k1)) := ⟨by rw [hL1]; exact HL.out.2.2.2.1, by rw [hL1]; exact HL.out.2.1⟩
              have IT : Hid (n2 = s8.tm.n + 1 ∧ (seg E2 0 n2).Perm (e :: seg s8.tm.E 0 s8.tm.n)) := by
                have h1 := hT.1
                have h2 := TPop.live hT
                unfold Tm.live at h2
                rw [HL.out.2.2.2.2.1] at h1 h2
                rw [HL.out.2.2.2.2.2] at h2
                exact ⟨h1, h2⟩
              have hn2p : (1 : Int) ≤ n2 := by have := IT.out.1; omega
              have hn2q : 0 < n2 := by omega
              clear hs hL0 hL1 hT SRC HT0 HT1 HSR HL
              rw [hsrc]
              clear hsrc
              go_wp2_with fail
              refine (queueLine0 qb _).mono ?_
              rintro r wa ⟨rfl, hwa⟩
              obtain rfl := hwa.symm
              go_wp2_with fail
              refine (lineAfter_any qb 1 s8.l0 _ qV.out.1.q0 I0.out.1 qV.out.2.s0 a0 n0 c0 k0 E0 cc0 ((q0.below bV.out).mono bV.out.size) z0 (by omega) false (fun _ => I0.out.2) (fun h => by cases h)).mono ?_
              rintro r V1 ⟨rfl, hv1⟩
              have qV1 : Hid (QSt V1 B qb d s8 ∧ Hol F N (0 + 1) s8) := ⟨qV.out.1.below hv1, qV.out.2⟩
              have bV1 : Hid (Below w.heap.size w V1) := bV.out.trans (hv1.mono bV.out.size)
              clear hv1 bV qV I0
              go_wp2_with fail
              refine (queueLine1 qb _).mono ?_
              rintro r wa ⟨rfl, hwa⟩
              obtain rfl := hwa.symm
              go_wp2_with fail
              refine (lineAfter_any qb 3 s8.l1 _ qV1.out.1.q1 I1.out.1 qV1.out.2.s1 a1 n1 c1 k1 E1 cc1 ((q1.below bV1.out).mono bV1.out.size) z1 (by omega) false (fun _ => I1.out.2) (fun h => by cases h)).mono ?_
              rintro r V2 ⟨rfl, hv2⟩
              have qV2 : Hid (QSt V2 B qb d s8) := qV1.out.1.below hv2
              have bV2 : Hid (Below w.heap.size w V2) := bV1.out.trans (hv2.mono bV1.out.size)
              clear hv2 bV1 qV1 I1
              go_wp2_with fail
              refine (queueTimed_any qb _ _ ⟨_, _, _, rfl⟩ qV2.out.qt.at_).mono ?_
              rintro r wa ⟨rfl, hwa⟩
              obtain rfl := hwa.symm
              have hmb : s8.tm.n ≤ 1048576 := Nat.le_trans qV2.out.qt.nc qV2.out.qt.cb
              have HPP : Hid (HeapP s8.tm.E s8.tm.n) := qV2.out.qt.heap
              go_wp2_with fail
              refine (fromEvents_any s8.tm.a s8.tm.b s8.tm.n s8.tm.c s8.tm.E _ hmb qV2.out.qt.row).mono ?_
              rintro r V3 ⟨g3, rfl, hg3, row3, hv3⟩
              have bV3 : Hid (Below w.heap.size w V3) := bV2.out.trans (hv3.mono bV2.out.size)
              clear hg3 hv3 bV2 qV2
              go_wp2_with fail
              refine (heapOK_any _ s8.tm.n s8.tm.n s8.tm.E _ hmb row3.sl).mono ?_
              rintro r V4 ⟨ok, rfl, hok, hv4⟩
              obtain rfl : ok = true := hok.2 HPP.out
              have row4 := row3.below hv4
              have bV4 : Hid (Below w.heap.size w V4) := bV3.out.trans (hv4.mono bV3.out.size)
              clear hok HPP hv4 bV3 row3
              go_wp2_with fail
              refine (sort_any a2 n2 c2 E2 _ (by omega) ((q2.below bV4.out).mono bV4.out.size)).mono ?_
              rintro r V5 ⟨g4, F2, rfl, hg4, rowS, pS, sS, hv5⟩
              have row5 := row4.below hv5
              have bV5 : Hid (Below w.heap.size w V5) := bV4.out.trans (hv5.mono bV4.out.size)
              have HS2 : Hid ((seg F2 0 n2).Perm (seg E2 0 n2) ∧ Srt F2 0 n2) := ⟨pS, sS⟩
              clear hg4 pS sS hv5 row4 bV4 q0 q1 q2
              have KR : Hid (∀ F3 : Nat → Ev, (seg F3 0 s8.tm.n).Perm (seg s8.tm.E 0 s8.tm.n) → Srt F3 0 s8.tm.n → ∀ i, i < s8.tm.n → F3 i = F2 (1 + i)) := by
                have h1 := HAP.out
                have h2 := HS2.out
                have h3 := IT.out.2
                rw [IT.out.1] at h1 h2 h3
                exact fun F3 pT sT => sorted_rest h1.1 pT sT h2.1 h2.2 h3 h1.2
              have KN : Hid (s8.tm.n = n2 - 1) := by have := IT.out.1; rw [Hid]; omega
              clear HAP HS2 IT
              by_cases h21 : n2 = 1
              · obtain rfl : n2 = 1 := h21
                go_wp2_with fail
                refine (sort_any _ s8.tm.n s8.tm.n s8.tm.E _ hmb row5.sl).mono ?_
                rintro r V6 ⟨g5, F3, rfl, hg5, rowT, pT, sT, hv6⟩
                have HS3 : Hid (∀ i, i < s8.tm.n → F3 i = F2 (1 + i)) := KR.out F3 pT sT
                have bV6 : Hid (Below w.heap.size w V6) := bV5.out.trans (hv6.mono bV5.out.size)
                clear pT sT hv6 row5 bV5
                go_wp2_with fail
                refine (sameList_eq _ s8.tm.n _ F3 _ _ _ (fun i => F2 (1 + i)) _ hmb KN.out rowT.sl (QSl.zero rfl) HS3.out).mono ?_
                rintro r V7 ⟨rfl, hv7⟩
                go_wp2
                go_ret
                exact ⟨rfl, bV6.out.trans (hv7.mono bV6.out.size)⟩
              · have h21' : ¬ (n2 : Int) = 1 := by omega
                go_wp2_with fail
                refine (sort_any _ s8.tm.n s8.tm.n s8.tm.E _ hmb row5.sl).mono ?_
                rintro r V6 ⟨g5, F3, rfl, hg5, rowT, pT, sT, hv6⟩
                have RW : QSl V6 V6.heap.size (some ⟨g4, 5, none⟩) (n2 - 1) (fun i => F2 (1 + i)) := by
                  have := (rowS.below hv6).sl.drop (k := 1); rwa [Nat.zero_add, Nat.one_mul] at this
                have HS3 : Hid (∀ i, i < s8.tm.n → F3 i = F2 (1 + i)) := KR.out F3 pT sT
                have bV6 : Hid (Below w.heap.size w V6) := bV5.out.trans (hv6.mono bV5.out.size)
                clear pT sT hv6 rowS row5 bV5
                go_wp2_with fail
                refine (sameList_eq _ s8.tm.n _ F3 _ _ _ (fun i => F2 (1 + i)) _ hmb KN.out rowT.sl (RW) HS3.out).mono ?_
                rintro r V7 ⟨rfl, hv7⟩
                go_wp2
                go_ret
                exact ⟨rfl, bV6.out.trans (hv7.mono bV6.out.size)⟩

/-- THE WALK, WHOLE. -/
theorem earliest_any (d : Int) (a0 : Option Addr) (n0 c0 : Nat) (h0 : Int) (E0 : Nat → Ev) (a1 : Option Addr) (n1 c1 : Nat) (h1 : Int) (E1 : Nat → Ev) (a2 : Option Addr) (n2 c2 : Nat) (E2 : Nat → Ev) (w : World) (m0 : n0 ≤ 9223372036854775807) (m1 : n1 ≤ 9223372036854775807) (m2 : n2 ≤ 9223372036854775807)
    (q0 : QSl w w.heap.size a0 n0 E0) (q1 : QSl w w.heap.size a1 n1 E1) (q2 : QSl w w.heap.size a2 n2 E2) (z0 : a0 = none → n0 = 0 ∧ c0 = 0) (z1 : a1 = none → n1 = 0 ∧ c1 = 0) (z2 : a2 = none → n2 = 0 ∧ c2 = 0) (cc0 : n0 ≤ c0) (cc1 : n1 ≤ c1) :
    Calls Try.prog 3 #[.int .u64 d, .slice a0 n0 c0, .int .i64 h0, .slice a1 n1 c1, .int .i64 h1, .slice a2 n2 c2] w fun r w' => r = .returned (.bool true) ∧ Below w.heap.size w w' := by
  by_cases hn : n0 + n1 + n2 ≤ 26214
  · exact earliest_in d a0 n0 c0 h0 E0 a1 n1 c1 h1 E1 a2 n2 c2 E2 w hn q0 q1 q2 cc0 cc1 z0 z1 z2
  · exact earliest_out d a0 n0 c0 h0 a1 n1 c1 h1 a2 n2 c2 w m0 m1 m2 (by omega)
end Go.Proofs.Qxb6613083a
