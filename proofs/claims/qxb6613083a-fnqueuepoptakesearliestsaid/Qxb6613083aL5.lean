/-
  THE WALK of FnLineLenCountsPops.
-/
import Derived.Test.Qxb6613083aE2
import Derived.Test.Qxb6613083aE3
import Derived.Test.Qxb6613083aE7
namespace Go.Proofs.Qxb6613083a
open Go.RowKit
attribute [local go_sem ↓] eql29 neq29

theorem same_self (e : Ev) : same e e = true := by simp [same]
theorem same_eq {a b : Ev} (h : same a b = true) : a = b := by
  simp only [same, Bool.and_eq_true, beq_iff_eq] at h
  obtain ⟨⟨⟨⟨h1, h2⟩, h3⟩, h4⟩, h5⟩ := h
  cases a; cases b; simp_all

theorem popS_ge {B lb b : Nat} (hl : B ≤ lb) (hb : B ≤ b) (lo : Nat) : ∀ r o, r < B → ¬ popS lb lo b r o := fun r o hr e => by
  rcases e with e | e
  · omega
  · have := e.1; omega

theorem bytes25_any (a : Option Addr) (n c : Nat) (h : Int) (w : World) (hn : n ≤ 9223372036854775807) :
    Calls Try.prog 25 #[.slice a n c, .int .i64 h] w fun r w' => r = .returned (.bool (decide (n ≤ 1048576))) ∧ w' = w := by
  by_cases hb : n ≤ 1048576
  · have E : Hid (decide (n ≤ 1048576) = true) := decide_eq_true hb
    go_enter Try.func25, Try.ntmps25
    go_wp2
    go_ret
    exact ⟨by rw [E.out]; rfl, rfl⟩
  · have E : Hid (decide (n ≤ 1048576) = false) := decide_eq_false hb
    have hb' : (1048576 : Int) < n := by omega
    go_enter Try.func25, Try.ntmps25
    go_wp2
    go_ret
    exact ⟨by rw [E.out]; rfl, rfl⟩

set_option maxHeartbeats 400000 in
theorem line_out (a : Option Addr) (n c : Nat) (h : Int) (w : World) (hn : n ≤ 9223372036854775807) (hout : 26214 < n) :
    Calls Try.prog 5 #[.slice a n c, .int .i64 h] w fun r w' => r = .returned (.bool true) ∧ Below w.heap.size w w' := by
  by_cases h1 : n ≤ 1048576
  · have e1 : decide (n ≤ 1048576) = true := decide_eq_true h1
    by_cases h2 : 32768 < n
    · have h2' : (32768 : Int) < n := by omega
      go_enter Try.func5, Try.ntmps5
      go_wp2_with (go_at_call 25; refine (bytes25_any a n c h _ hn).mono ?_; rintro e w2 ⟨rfl, hw2⟩; have hw2' := hw2.symm; subst hw2')
      go_ret
      exact ⟨rfl, Below.refl _ _⟩
    · have h3 : (1048576 : Int) < 40 * n := by omega
      go_enter Try.func5, Try.ntmps5
      go_wp2_with (go_at_call 25; refine (bytes25_any a n c h _ hn).mono ?_; rintro e w2 ⟨rfl, hw2⟩; have hw2' := hw2.symm; subst hw2')
      go_ret
      exact ⟨rfl, Below.refl _ _⟩
  · have e1 : decide (n ≤ 1048576) = false := decide_eq_false h1
    go_enter Try.func5, Try.ntmps5
    go_wp2_with (go_at_call 25; refine (bytes25_any a n c h _ hn).mono ?_; rintro e w2 ⟨rfl, hw2⟩; have hw2' := hw2.symm; subst hw2')
    go_ret
    exact ⟨rfl, Below.refl _ _⟩

set_option maxHeartbeats 2000000 in
theorem line_in (a : Option Addr) (n c : Nat) (h : Int) (E : Nat → Ev) (w : World) (hn : n ≤ 26214) (hq : QSl w w.heap.size a n E) (hnil : a = none → n = 0 ∧ c = 0) :
    Calls Try.prog 5 #[.slice a n c, .int .i64 h] w fun r w' => r = .returned (.bool true) ∧ Below w.heap.size w w' := by
  have e1 : decide (n ≤ 1048576) = true := decide_eq_true (by omega)
  have hn2 : ¬ (32768 : Int) < n := by omega
  have hn3 : ¬ (1048576 : Int) < 40 * n := by omega
  go_enter Try.func5, Try.ntmps5
  go_wp2_with (go_at_call 25; refine (bytes25_any a n c h _ (by omega)).mono ?_; rintro e w2 ⟨rfl, hw2⟩; have hw2' := hw2.symm; subst hw2')
  refine (lineOK_any a n c h E _ (by omega) hq).mono ?_
  rintro r w1 ⟨ok, rfl, hok, hb1⟩
  cases ok with
  | false =>
    clear hok
    go_wp2
    go_ret
    exact ⟨rfl, hb1⟩
  | true =>
    have hP := hok.1 rfl
    clear hok
    obtain ⟨k, rfl⟩ := Int.eq_ofNat_of_zero_le hP.1
    have hk : k ≤ n / 2 := by have := hP.2.1; omega
    clear hP
    have hq1 := hq.below hb1
    go_wp2
    go_loop [5, 6] (fun cnt i => ∃ j : Nat, k ≤ j ∧ j ≤ n ∧ i = .int .i64 j ∧ cnt = .int .i64 ((j - k : Nat) : Int)) (fun _ i => n - (intOf i).toNat)
    case atStart => exact ⟨k, by omega, by omega, rfl, by simp⟩
    case round =>
      obtain ⟨j, hj1, hj2, rfl, rfl⟩ := hrel
      by_cases hj : j < n
      · have HJ : Hid (((j + 1 - k : Nat) : Int) = ((j - k : Nat) : Int) + 1) := by rw [Hid]; omega
        have hjb : ((j - k : Nat) : Int) ≤ 26214 := by omega
        go_wp2
        go_round
        case rel => exact ⟨j + 1, by omega, by omega, by go_num, by rw [HJ.out]⟩
        case measure => simp [intOf]; omega
      · have hjn : n = j := by omega
        subst hjn
        clear hj hj1 hj2 e1 hn2 hn3
        obtain ⟨cnt, HN⟩ : ∃ cnt : Nat, Hid (n - k = cnt) := ⟨_, rfl⟩
        rw [HN.out]
        have hcnt : cnt ≤ 26214 := by have := HN.out; omega
        cases a with
        | none =>
          obtain ⟨rfl, rfl⟩ := hnil rfl
          obtain rfl : k = 0 := by omega
          obtain rfl : cnt = 0 := by have := HN.out; omega
          go_wp2_with fail
          refine (toEvents_nil _).mono ?_
          rintro r w2 ⟨rfl, hw2⟩
          have hw2' := hw2.symm
          subst hw2'
          go_wp2_with fail
          refine (newLine_any none 0 0 0 _).mono ?_
          rintro r w3 ⟨rfl, l3, hb3⟩
          have hb13 := hb1.trans (hb3.mono hb1.size)
          go_wp2_with fail
          refine wp_loop_rounds 1 ?_
          rw [rounds_succ]
          go_wp2_with fail
          refine (zzlineLen_any _ 0 none 0 0 0 _ (by omega) (by omega) l3).mono ?_
          rintro r w4 ⟨rfl, x4, hw4⟩
          subst hw4
          go_wp2_with fail
          refine (zzlineFirst_nil _ 0 none 0 0 _ (by omega) (l3.below (below_drewN (Below.refl _ _) x4))).mono ?_
          rintro r w5 ⟨rfl, x5, hw5⟩
          subst hw5
          go_wp2
          go_ret
          exact ⟨rfl, below_drewN hb13 _⟩
        | some ad =>
          go_wp2_with fail
          refine (toEvents_some ad n c E _ (by omega) (hq1.mono hb1.size)).mono ?_
          rintro r w2 ⟨b, rfl, hbg, row, hb2⟩
          go_wp2_with fail
          refine (newLine_any _ n n k _).mono ?_
          rintro r w3 ⟨rfl, l3, hb3⟩
          have s3 : LineSt w3 w2.heap.size 0 b n n k E := ⟨Nat.le_refl _, by omega, hk, l3, row.below hb3, by have := row.lt; omega⟩
          have hbel : Below w.heap.size w w3 := (hb1.trans (hb2.mono hb1.size)).trans (hb3.mono (Nat.le_trans hb1.size hb2.size))
          have hbB : w.heap.size ≤ b := Nat.le_trans hb1.size hbg
          have hlB : w.heap.size ≤ w2.heap.size := Nat.le_trans hb1.size hb2.size
          obtain ⟨lb, hlb⟩ : ∃ lb, w2.heap.size = lb := ⟨_, rfl⟩
          rw [hlb] at s3 hlB ⊢
          clear l3 row hb1 hb2 hb3 hq1 hbg hlb
          go_wp2_with fail
          go_loopw [8] (fun i wr => ∃ j n' h' : Nat, ∃ E' : Nat → Ev, j ≤ cnt ∧ i = .int .i64 j ∧ LineSt wr lb 0 b n' n h' E' ∧ n' - h' + j = cnt ∧ (∀ x, x < n' - h' → E' (h' + x) = E (k + j + x)) ∧ Below w.heap.size w wr) (fun i _ => cnt - (intOf i).toNat)
          case atStart => exact ⟨0, n, k, E, by omega, rfl, s3, by have := HN.out; omega, fun x _ => by rw [Nat.add_zero], hbel⟩
          case round =>
            clear s3 hbel
            obtain ⟨j, n', h', E', hj, rfl, st, hlen, hE, hbel⟩ := hrel
            have HLEN : Hid (n' - h' + j = cnt) := hlen
            have HEE : Hid (∀ x, x < n' - h' → E' (h' + x) = E (k + j + x)) := hE
            have HST : Hid (LineSt wr lb 0 b n' n h' E') := st
            have hn' : n' ≤ 26214 := by have := st.nc; omega
            have hh' : h' ≤ n' := by have := st.hn; omega
            clear hlen hE
            by_cases hjc : j < cnt
            · have hlt : h' < n' := by have := HLEN.out; omega
              obtain ⟨e, he⟩ : ∃ e, E' h' = e := ⟨_, rfl⟩
              have he2 : E (k + j) = e := by have := HEE.out 0 (by omega); simpa [he] using this.symm
              obtain ⟨eb, eo, had, heb, hqa⟩ := hq (by have := HN.out; omega)
              have had' : ad = ⟨eb, eo, none⟩ := by simpa using had
              subst had'
              obtain ⟨p, HP⟩ : ∃ p : Nat, Hid (k + j = p) := ⟨_, rfl⟩
              have qv : QAt wr eb (eo + p * 5) e := by have := (hqa (k + j) (by have := HN.out; omega)).below heb hbel; rw [he2, HP.out] at this; exact this
              have ev : EAt wr b (h' * 7) e := by have := st.row.at_ h' hlt; rwa [he] at this
              have HV : Hid (E' h' = e) := he
              clear had hqa he he2 hq
              go_wp2_with fail
              refine (zzlineLen_any lb 0 _ n' n h' _ (by omega) hh' st.at_).mono ?_
              rintro r w4 ⟨rfl, x4, hw4⟩
              subst hw4
              have hb4 : Below wr.heap.size wr (wr.drewN x4) := below_drewN (Below.refl _ _) x4
              have st4 := st.below hb4
              have ev4 := ev.below ev.lt hb4
              have qv4 := qv.below qv.lt hb4
              have hbel4 := hbel.trans (hb4.mono hbel.size)
              have hneq : (((n' - h' : Nat) : Int) != (cnt : Int) - (j : Int)) = false := by have := HLEN.out; simp; omega
              clear HST st ev qv hbel hb4
              generalize wr.drewN x4 = W4 at *
              go_wp2_with fail
              refine (zzlineFirst_some lb 0 b 0 n' n h' _ (by omega) hlt st4.at_).mono ?_
              rintro r w5 ⟨rfl, x5, hw5⟩
              subst hw5
              rw [Nat.zero_add]
              have hb5 : Below W4.heap.size W4 (W4.drewN x5) := below_drewN (Below.refl _ _) x5
              have st5 := st4.below hb5
              have ev5 := ev4.below ev4.lt hb5
              have qv5 := qv4.below qv4.lt hb5
              have hbel5 := hbel4.trans (hb5.mono hbel4.size)
              clear st4 ev4 qv4 hbel4 hb5 hneq
              generalize W4.drewN x5 = W5 at *
              have HS5 : Hid (LineSt W5 lb 0 b n' n h' E') := st5
              clear st5
              have hss := same_self e
              have hx1 : IntKind.i64.wrap ((k : Int) + (j : Int)) = (p : Int) := by have := HP.out; rw [IntKind.wrap_i64]; omega
              have hx2 : (p : Int) < (n : Int) := by have := HN.out; have := HP.out; omega
              have sS : EAt W5.drew b (h' * 7) e ∧ QAt W5.drew eb (eo + p * 5) e := ⟨ev5, qv5⟩
              go_upto_region 21 with fail
              go_region_held3 (fun w' => EAt w' b (h' * 7) e ∧ QAt w' eb (eo + p * 5) e) (first | with_reducible exact sS | with_reducible exact sT) ((go_at_call 14; refine (fromEvent_any e _).mono ?_; rintro r w6 ⟨rfl, hb6⟩; have hb6' := (Below.refl _ W5).drew.trans hb6; have sT : EAt w6 b (h' * 7) e ∧ QAt w6 eb (eo + p * 5) e := ⟨ev5.below ev5.lt hb6', qv5.below qv5.lt hb6'⟩))
              have hb6' := (Below.refl _ W5).drew.trans hb6
              have st6 := HS5.out.below hb6'
              have qv6 := qv5.below qv5.lt hb6'
              have hbel6 := hbel5.trans (hb6'.mono hbel5.size)
              clear HS5 ev5 qv5 hbel5 sS sT hb6 hb6'
              have st6d : LineSt w6.drew lb 0 b n' n h' E' := st6.below (Below.refl _ w6).drew
              have hbel6d : Below w.heap.size w w6.drew := hbel6.drew
              have hsz6 : w.heap.size ≤ w6.drew.heap.size := hbel6d.size
              have hpS : ∀ r o, r < w.heap.size → ¬ popS lb 0 b r o := popS_ge hlB hbB 0
              have sS : QAt w6.drew eb (eo + p * 5) e := qv6
              clear st6 hbel6
              go_upto_region 23 with fail
              go_region_held3 (fun w' => QAt w' eb (eo + p * 5) e) (first | with_reducible exact sS | with_reducible exact sT | with_reducible exact sU) (first | (go_at_call 29; refine (zzpop_any lb 0 b n' n h' E' _ st6d hlt).mono ?_; rintro r w7 ⟨n7, h7, E7, rfl, st7, hp7, hc7⟩; rw [HV.out]; have hbB7 := hc7.below hsz6 hpS; have sT : QAt w7 eb (eo + p * 5) e := sS.below heb hbB7) | (go_at_call 14; refine (fromEvent_any e _).mono ?_; rintro r w8 ⟨rfl, hb8⟩; have sU : QAt w8 eb (eo + p * 5) e := sT.below sT.lt hb8))
              have st8 := st7.below hb8
              have hbel8 := (hbel6d.trans hbB7).trans (hb8.mono (hbel6d.trans hbB7).size)
              clear sS sT sU st7 st6d hbB7 hb8 hc7 hbel6d
              have H8 : Hid (LineSt w8 lb 0 b n7 n h7 E7 ∧ Popped n' h' E' n7 h7 E7) := ⟨st8, hp7⟩
              clear st8 hp7 hpS hss hx1 hx2
              go_wp2
              go_roundw
              case rel =>
                obtain ⟨st8, hp⟩ := H8.out
                refine ⟨j + 1, n7, h7, E7, by omega, by go_num, st8, by have := HLEN.out; have := hp.1; omega, fun x hx => ?_, hbel8⟩
                have h1 := hp.2.2.1 x hx
                have h2 := HEE.out (x + 1) (by have := hp.1; omega)
                rw [h1, show h' + 1 + x = h' + (x + 1) by omega, h2, show k + j + (x + 1) = k + (j + 1) + x by omega]
              case measure => simp [intOf]; omega
            · have hj0 : j = cnt := by omega
              have hz : n' = h' := by have := HLEN.out; have := st.hn; omega
              obtain rfl : h' = n' := hz.symm
              have hzz : ((h' - h' : Nat) : Int) = 0 := by omega
              clear hq HST HEE
              go_wp2_with fail
              refine (zzlineLen_any lb 0 _ h' n h' _ (by omega) (Nat.le_refl _) st.at_).mono ?_
              rintro r w4 ⟨rfl, x4, hw4⟩
              subst hw4
              rw [hzz]
              go_wp2_with fail
              refine (zzlineFirst_nil lb 0 _ h' n _ (by omega) (st.at_.below (below_drewN (Below.refl _ _) x4))).mono ?_
              rintro r w5 ⟨rfl, x5, hw5⟩
              subst hw5
              go_wp2
              go_ret
              exact ⟨rfl, below_drewN hbel _⟩

/-- THE WALK, WHOLE. -/
theorem line_any (a : Option Addr) (n c : Nat) (h : Int) (E : Nat → Ev) (w : World) (hn : n ≤ 9223372036854775807) (hq : QSl w w.heap.size a n E) (hnil : a = none → n = 0 ∧ c = 0) :
    Calls Try.prog 5 #[.slice a n c, .int .i64 h] w fun r w' => r = .returned (.bool true) ∧ Below w.heap.size w w' := by
  by_cases hb : n ≤ 26214
  · exact line_in a n c h E w hb hq hnil
  · exact line_out a n c h w hn (by omega)
end Go.Proofs.Qxb6613083a
