/-
  WALK of b1QueueOK.
-/
import Derived.Test.Qxb6613083aG3
namespace Go.Proofs.Qxb6613083a
open Go.RowKit Go.BigFrame

/-- the live events, the lines' heads being k0, k1 -/
def liveL (n0 k0 : Nat) (E0 : Nat → Ev) (n1 k1 : Nat) (E1 : Nat → Ev) (n2 : Nat) (E2 : Nat → Ev) : List Ev := seg E0 k0 (n0 - k0) ++ seg E1 k1 (n1 - k1) ++ seg E2 0 n2
/-- strictly in order -/
def Strict (F : Nat → Ev) (n : Nat) : Prop := ∀ i, i + 1 < n → bef (F i) (F (i + 1)) = true
/-- a queue as the package keeps it -/
def QOK (n0 : Nat) (h0 : Int) (E0 : Nat → Ev) (n1 : Nat) (h1 : Int) (E1 : Nat → Ev) (n2 : Nat) (E2 : Nat → Ev) : Prop :=
  LineP n0 E0 h0 ∧ LineP n1 E1 h1 ∧ HeapP E2 n2 ∧ ∃ F, (seg F 0 (n0 - h0.toNat + (n1 - h1.toNat) + n2)).Perm (liveL n0 h0.toNat E0 n1 h1.toNat E1 n2 E2) ∧ Strict F (n0 - h0.toNat + (n1 - h1.toNat) + n2)

set_option maxHeartbeats 2000000 in
set_option maxRecDepth 100000 in
theorem queueOK_any (a0 : Option Addr) (n0 c0 : Nat) (h0 : Int) (E0 : Nat → Ev) (a1 : Option Addr) (n1 c1 : Nat) (h1 : Int) (E1 : Nat → Ev) (a2 : Option Addr) (n2 c2 : Nat) (E2 : Nat → Ev) (w : World) (hn : n0 + n1 + n2 ≤ 1048576)
    (q0 : QSl w w.heap.size a0 n0 E0) (q1 : QSl w w.heap.size a1 n1 E1) (q2 : QSl w w.heap.size a2 n2 E2) :
    Calls Try.prog 9 #[.slice a0 n0 c0, .int .i64 h0, .slice a1 n1 c1, .int .i64 h1, .slice a2 n2 c2] w fun r w' => ∃ b : Bool, r = .returned (.bool b) ∧ (b = true → QOK n0 h0 E0 n1 h1 E1 n2 E2) ∧ Below w.heap.size w w' := by
  go_enter Try.func9, Try.ntmps9
  go_wp2_with fail
  refine (lineOK_any a0 n0 c0 h0 E0 _ (by omega) q0).mono ?_
  rintro r w1 ⟨ok, rfl, hok, hb1⟩
  cases ok with
  | false =>
    clear hok
    go_wp2
    go_ret
    exact ⟨false, rfl, fun e => absurd e (by decide), hb1⟩
  | true =>
    have HP0 : Hid (LineP n0 E0 h0) := hok.1 rfl
    clear hok
    go_wp2_with fail
    refine (lineOK_any a1 n1 c1 h1 E1 _ (by omega) ((q1.below hb1).mono hb1.size)).mono ?_
    rintro r w2 ⟨ok, rfl, hok, hb2⟩
    have hb12 := hb1.trans (hb2.mono hb1.size)
    cases ok with
    | false =>
      clear hok
      go_wp2
      go_ret
      exact ⟨false, rfl, fun e => absurd e (by decide), hb12⟩
    | true =>
      have HP1 : Hid (LineP n1 E1 h1) := hok.1 rfl
      clear hok
      go_wp2_with fail
      refine (heapOK_any a2 n2 c2 E2 _ (by omega) ((q2.below hb12).mono hb12.size)).mono ?_
      rintro r w3 ⟨ok, rfl, hok, hb3⟩
      have hb13 := hb12.trans (hb3.mono hb12.size)
      cases ok with
      | false =>
        clear hok
        go_wp2
        go_ret
        exact ⟨false, rfl, fun e => absurd e (by decide), hb13⟩
      | true =>
        have HP2 : Hid (HeapP E2 n2) := hok.1 rfl
        clear hok
        obtain ⟨k0, rfl⟩ := Int.eq_ofNat_of_zero_le HP0.out.1
        obtain ⟨k1, rfl⟩ := Int.eq_ofNat_of_zero_le HP1.out.1
        have hk0 : k0 ≤ n0 := by have := HP0.out.2.1; omega
        have hk1 : k1 ≤ n1 := by have := HP1.out.2.1; omega
        obtain ⟨N, HN⟩ : ∃ N : Nat, Hid (n0 - k0 + (n1 - k1) + n2 = N) := ⟨_, rfl⟩
        have hN : N ≤ 1048576 := by have := HN.out; omega
        go_wp2_with fail
        refine (live_any a0 n0 c0 k0 E0 a1 n1 c1 k1 E1 a2 n2 c2 E2 _ hn hk0 hk1 ((q0.below hb13).mono hb13.size) ((q1.below hb13).mono hb13.size) ((q2.below hb13).mono hb13.size)).mono ?_
        rw [HN.out]
        rintro r w4 ⟨g, cap, L, rfl, hg, rowL, hsegL, hb4⟩
        have hb14 := hb13.trans (hb4.mono hb13.size)
        go_wp2_with fail
        refine (sort_any _ N cap L _ hN rowL.sl).mono ?_
        rintro r w5 ⟨g2, F, rfl, hg2, rowF, hpmF, hsrtF, hb5⟩
        have hb15 := hb14.trans (hb5.mono hb14.size)
        have HPM : Hid ((seg F 0 N).Perm (liveL n0 k0 E0 n1 k1 E1 n2 E2)) := by rw [hsegL] at hpmF; exact hpmF
        clear hsegL hpmF rowL hb1 hb2 hb3 hb4 hb5 hb12 hb13 hb14 q0 q1 q2 hsrtF
        go_wp2_with fail
        go_loopw [12] (fun i wr => ∃ k : Nat, 1 ≤ k ∧ i = .int .i64 k ∧ (∀ j, j + 1 < k → j + 1 < N → bef (F j) (F (j + 1)) = true) ∧ QRow wr g2 N F ∧ Below w.heap.size w wr) (fun i _ => N - (intOf i).toNat)
        case atStart => exact ⟨1, by omega, rfl, fun j h => by omega, rowF, hb15⟩
        case round =>
          clear rowF hb15
          obtain ⟨k, hk, rfl, hst, row, hbel⟩ := hrel
          have HST : Hid (∀ j, j + 1 < k → j + 1 < N → bef (F j) (F (j + 1)) = true) := hst
          clear hst
          by_cases hkN : k < N
          · obtain ⟨d, D⟩ : ∃ d : Nat, Hid (k - 1 = d) := ⟨_, rfl⟩
            have i1 : IntKind.i64.wrap ((k : Int) - 1) = (d : Int) := by have := D.out; rw [IntKind.wrap_i64]; omega
            have i3 : (d : Int) < N := by have := D.out; omega
            have i4 : (k : Int) < N := by omega
            have qk : ∀ x : BW wr, QAt x.v g2 (k * 5) (F k) := (row.at_ k hkN).bw
            have qd : ∀ x : BW wr, QAt x.v g2 (d * 5) (F d) := (row.at_ d (by have := D.out; omega)).bw
            cases hbb : bef (F d) (F k) with
            | true =>
              have C1 : Hid (∀ x : BW wr, Calls Try.prog 35 #[.agg #[.int .u64 ((F d)).hi, .int .u64 ((F d)).lo, .int .u64 ((F d)).ord, .int .u8 ((F d)).kind, .int .i64 ((F d)).user], .agg #[.int .u64 ((F k)).hi, .int .u64 ((F k)).lo, .int .u64 ((F k)).ord, .int .u8 ((F k)).kind, .int .i64 ((F k)).user]] x.v fun e w'' => e = .returned (.bool true) ∧ ∃ y : BW wr, w'' = y.v) := before_bw hbb
              go_upto_region 7 with fail
              refine wp_region_bw (by kernel_rfl) (by kernel_rfl) ?_
              repeat (go_big_quiet_step (with_reducible exact C1.out _))
              refine wpQuiet_nil ?_
              rintro _ ⟨⟨wz, hbz⟩, rfl⟩
              have rowz := row.below hbz
              clear qk qd C1
              go_wp2
              go_roundw
              case rel => exact ⟨k + 1, by omega, by go_num, fun j h1 h2 => by
                by_cases e : j + 1 = k
                · have ej : j = d := by have := D.out; omega
                  rw [e, ej]; exact hbb
                · exact HST.out j (by omega) h2, rowz, hbel.trans (hbz.mono hbel.size)⟩
              case measure => simp [intOf]; omega
            | false =>
              have C1 : Hid (∀ x : BW wr, Calls Try.prog 35 #[.agg #[.int .u64 ((F d)).hi, .int .u64 ((F d)).lo, .int .u64 ((F d)).ord, .int .u8 ((F d)).kind, .int .i64 ((F d)).user], .agg #[.int .u64 ((F k)).hi, .int .u64 ((F k)).lo, .int .u64 ((F k)).ord, .int .u8 ((F k)).kind, .int .i64 ((F k)).user]] x.v fun e w'' => e = .returned (.bool false) ∧ ∃ y : BW wr, w'' = y.v) := before_bw hbb
              go_upto_region 7 with fail
              refine wp_region_bw (by kernel_rfl) (by kernel_rfl) ?_
              repeat (go_big_quiet_step (with_reducible exact C1.out _))
              refine wpQuiet_nil ?_
              rintro _ ⟨⟨wz, hbz⟩, rfl⟩
              go_wp2
              go_ret
              exact ⟨false, rfl, fun e => absurd e (by decide), hbel.trans (hbz.mono hbel.size)⟩
          · have HQ : Hid (QOK n0 k0 E0 n1 k1 E1 n2 E2) := ⟨HP0.out, HP1.out, HP2.out, F, by rw [Int.toNat_natCast, Int.toNat_natCast, HN.out]; exact HPM.out, by rw [Int.toNat_natCast, Int.toNat_natCast, HN.out]; exact fun i hi => HST.out i (by omega) hi⟩
            go_wp2
            go_ret
            exact ⟨true, rfl, fun _ => HQ.out, hbel⟩
end Go.Proofs.Qxb6613083a
