/-
  WALK of b1LineAfter.
-/
import Derived.Test.Qxb6613083aG7
import Derived.Test.Qxb6613083aP5
namespace Go.Proofs.Qxb6613083a
open Go.RowKit Go.BigFrame

theorem lineP_of {L : Ln} (hn : L.h ≤ L.n / 2) (hs : L.srt) (hz : ∀ i, i < L.h → L.E i = ev0) : LineP L.n L.E L.h :=
  ⟨by omega, by omega, fun i hi => by rw [hz i (by omega)]; exact same_self _, fun i h1 h2 => by
    have := hs (i - 1 - L.h) (by omega)
    rwa [show L.h + (i - 1 - L.h + 1) = i by omega, show L.h + (i - 1 - L.h) = i - 1 by omega] at this⟩
def ev0F : Nat → Ev := fun _ => ev0
theorem seg_eq {E F : Nat → Ev} {a b k l : Nat} (h : seg E a k = seg F b l) : k = l ∧ ∀ i, i < k → E (a + i) = F (b + i) := by
  have hl := congrArg List.length h
  rw [seg_len, seg_len] at hl
  subst hl
  refine ⟨rfl, fun i hi => ?_⟩
  have h1 := congrArg (fun l => l[i]?) h
  simp only [seg_get hi] at h1
  exact Option.some.inj h1
theorem QSl.drop {w : World} {B : Nat} {b o n k : Nat} {E : Nat → Ev} (h : QSl w B (some ⟨b, o, none⟩) n E) : QSl w B (some ⟨b, o + k * 5, none⟩) (n - k) (fun i => E (k + i)) := fun hp => by
  obtain ⟨b', o', e, hb, hq⟩ := h (by omega)
  simp only [Option.some.injEq, Addr.mk.injEq] at e
  obtain ⟨rfl, rfl, _⟩ := e
  refine ⟨_, _, rfl, hb, fun i hi => ?_⟩
  have := hq (k + i) (by omega)
  rwa [show o + (k + i) * 5 = o + k * 5 + i * 5 by omega] at this
theorem QSl.dropA {w : World} {B : Nat} {ad : Addr} {n : Nat} {E : Nat → Ev} (h : QSl w B (some ad) n E) (k : Nat) : QSl w B (some (ad.add (k * 5))) (n - k) (fun i => E (k + i)) := fun hp => by
  obtain ⟨b', o', e, hb, hq⟩ := h (by omega)
  simp only [Option.some.injEq] at e
  subst e
  refine ⟨b', o' + k * 5, by simp [Addr.add], hb, fun i hi => ?_⟩
  have := hq (k + i) (by omega)
  rwa [show o' + (k + i) * 5 = o' + k * 5 + i * 5 by omega] at this
theorem QSl.zero {w : World} {B : Nat} {a : Option Addr} {n : Nat} {E : Nat → Ev} (h : n = 0) : QSl w B a n E := fun hp => absurd hp (by omega)
theorem sameList_eq (a1 : Option Addr) (n1 c1 : Nat) (E : Nat → Ev) (a2 : Option Addr) (n2 c2 : Nat) (F : Nat → Ev) (w : World) (hn : n1 ≤ 1048576) (he : n1 = n2) (q1 : QSl w w.heap.size a1 n1 E) (q2 : QSl w w.heap.size a2 n2 F) (h : ∀ i, i < n1 → E i = F i) :
    Calls Try.prog 22 #[.slice a1 n1 c1, .slice a2 n2 c2] w fun r w' => r = .returned (.bool true) ∧ Below w.heap.size w w' := by
  subst he
  exact sameList_any a1 n1 c1 E a2 c2 F w hn q1 q2 h

set_option maxHeartbeats 1000000 in
theorem lineAfter_stay (lb lo : Nat) (L : Ln) (w : World) (ok : LnOK w lb lo L) (clr : ∀ i, i < L.h → L.E i = ev0) (srt : L.srt) (ad : Addr) (n c k : Nat) (E : Nat → Ev) (hnc : n ≤ c) (q : QSl w w.heap.size (some ad) n E)
    (hk : k ≤ n) (hlen : L.n - L.h = n - k) (hE : ∀ i, i < L.n - L.h → L.E (L.h + i) = E (k + i)) :
    Calls Try.prog 17 #[.pointer (some ⟨lb, lo, none⟩), .slice (some ad) n c, .int .i64 k, .bool false] w fun r w' => r = .returned (.bool true) ∧ Below w.heap.size w w' := by
  have HP : Hid (LineP L.n L.E L.h) := lineP_of ok.hn srt clr
  have hnb := ok.nb
  have hle := ok.hle
  have HE : Hid (L.n - L.h = n - k ∧ ∀ i, i < L.n - L.h → L.E (L.h + i) = E (k + i)) := ⟨hlen, hE⟩
  have hat := ok.at_
  have hrow := ok.row
  obtain ⟨la, lbk, ln, lc, lh, lE⟩ := L
  dsimp only at *
  clear ok clr srt hlen hE
  go_enter Try.func17, Try.ntmps17
  go_wp2_with fail
  refine (lineState_any lb lo la ln lc lh _ hat).mono ?_
  rintro r w1 ⟨rfl, hb1⟩
  go_wp2_with fail
  refine (fromEvents_any la lbk ln lc lE _ hnb (fun h => ⟨(hrow h).1, (hrow h).2.below hb1⟩)).mono ?_
  rintro r w2 ⟨g, rfl, hg, rowg, hb2⟩
  have hb12 := hb1.trans (hb2.mono hb1.size)
  clear hrow hat
  go_wp2_with fail
  refine (lineOK_any _ ln ln lh lE _ hnb rowg.sl).mono ?_
  rintro r w3 ⟨ok, rfl, hok, hb3⟩
  have hb13 := hb12.trans (hb3.mono hb12.size)
  obtain rfl : ok = true := hok.2 HP.out
  clear hok HP
  have rowg3 := rowg.below hb3
  clear rowg hb1 hb2 hb3 hb12
  have RG : QSl w3 w3.heap.size (some ⟨g, lh * 5, none⟩) (ln - lh) (fun i => lE (lh + i)) := by have := (rowg3.sl).drop (k := lh); rwa [Nat.zero_add] at this
  have QE := ((q.below hb13).mono hb13.size).dropA k
  clear q rowg3
  go_wp2_with fail
  all_goals
    refine (sameList_eq _ _ _ (fun i => lE (lh + i)) _ _ _ (fun i => E (k + i)) _ (by omega) (by have := HE.out.1; omega) (by first | exact RG | exact QSl.zero (by omega)) (by first | exact QE | exact QSl.zero (by omega)) (by intro i hi; exact HE.out.2 i (by omega))).mono ?_
    rintro r w4 ⟨rfl, hb4⟩
    go_wp2
    go_ret
    exact ⟨rfl, hb13.trans (hb4.mono hb13.size)⟩

set_option maxHeartbeats 1000000 in
theorem lineAfter_gone (lb lo : Nat) (L : Ln) (w : World) (ok : LnOK w lb lo L) (clr : ∀ i, i < L.h → L.E i = ev0) (srt : L.srt) (ad : Addr) (n c k : Nat) (E : Nat → Ev) (hnc : n ≤ c) (q : QSl w w.heap.size (some ad) n E)
    (hk : k < n) (hlen : L.n - L.h = n - (k + 1)) (hE : ∀ i, i < L.n - L.h → L.E (L.h + i) = E (k + 1 + i)) :
    Calls Try.prog 17 #[.pointer (some ⟨lb, lo, none⟩), .slice (some ad) n c, .int .i64 k, .bool true] w fun r w' => r = .returned (.bool true) ∧ Below w.heap.size w w' := by
  have HP : Hid (LineP L.n L.E L.h) := lineP_of ok.hn srt clr
  have hnb := ok.nb
  have hle := ok.hle
  have HE : Hid (L.n - L.h = n - (k + 1) ∧ ∀ i, i < L.n - L.h → L.E (L.h + i) = E (k + 1 + i)) := ⟨hlen, hE⟩
  have hat := ok.at_
  have hrow := ok.row
  obtain ⟨la, lbk, ln, lc, lh, lE⟩ := L
  dsimp only at *
  clear ok clr srt hlen hE
  go_enter Try.func17, Try.ntmps17
  go_wp2_with fail
  refine (lineState_any lb lo la ln lc lh _ hat).mono ?_
  rintro r w1 ⟨rfl, hb1⟩
  go_wp2_with fail
  refine (fromEvents_any la lbk ln lc lE _ hnb (fun h => ⟨(hrow h).1, (hrow h).2.below hb1⟩)).mono ?_
  rintro r w2 ⟨g, rfl, hg, rowg, hb2⟩
  have hb12 := hb1.trans (hb2.mono hb1.size)
  clear hrow hat
  go_wp2_with fail
  refine (lineOK_any _ ln ln lh lE _ hnb rowg.sl).mono ?_
  rintro r w3 ⟨ok, rfl, hok, hb3⟩
  have hb13 := hb12.trans (hb3.mono hb12.size)
  obtain rfl : ok = true := hok.2 HP.out
  clear hok HP
  have rowg3 := rowg.below hb3
  clear rowg hb1 hb2 hb3 hb12
  have RG : QSl w3 w3.heap.size (some ⟨g, lh * 5, none⟩) (ln - lh) (fun i => lE (lh + i)) := by have := (rowg3.sl).drop (k := lh); rwa [Nat.zero_add] at this
  have QE := (((q.below hb13).mono hb13.size).dropA k).dropA 1
  have hck : k < c := by omega
  clear q rowg3
  go_wp2_with fail
  all_goals
    refine (sameList_eq _ _ _ (fun i => lE (lh + i)) _ _ _ (fun i => E (k + (1 + i))) _ (by omega) (by have := HE.out.1; omega) (by first | exact RG | exact QSl.zero (by omega)) (by first | exact QE | exact QSl.zero (by omega)) (by intro i hi; rw [HE.out.2 i (by omega), Nat.add_assoc])).mono ?_
    rintro r w4 ⟨rfl, hb4⟩
    go_wp2
    go_ret
    exact ⟨rfl, hb13.trans (hb4.mono hb13.size)⟩

set_option maxHeartbeats 1000000 in
theorem lineAfter_nil (lb lo : Nat) (L : Ln) (w : World) (ok : LnOK w lb lo L) (clr : ∀ i, i < L.h → L.E i = ev0) (srt : L.srt) (hlen : L.n - L.h = 0) :
    Calls Try.prog 17 #[.pointer (some ⟨lb, lo, none⟩), .slice none 0 0, .int .i64 0, .bool false] w fun r w' => r = .returned (.bool true) ∧ Below w.heap.size w w' := by
  have HP : Hid (LineP L.n L.E L.h) := lineP_of ok.hn srt clr
  have hnb := ok.nb
  have hle := ok.hle
  have HE : Hid (L.n - L.h = 0) := hlen
  have hat := ok.at_
  have hrow := ok.row
  obtain ⟨la, lbk, ln, lc, lh, lE⟩ := L
  dsimp only at *
  clear ok clr srt hlen
  go_enter Try.func17, Try.ntmps17
  go_wp2_with fail
  refine (lineState_any lb lo la ln lc lh _ hat).mono ?_
  rintro r w1 ⟨rfl, hb1⟩
  go_wp2_with fail
  refine (fromEvents_any la lbk ln lc lE _ hnb (fun h => ⟨(hrow h).1, (hrow h).2.below hb1⟩)).mono ?_
  rintro r w2 ⟨g, rfl, hg, rowg, hb2⟩
  have hb12 := hb1.trans (hb2.mono hb1.size)
  clear hrow hat
  go_wp2_with fail
  refine (lineOK_any _ ln ln lh lE _ hnb rowg.sl).mono ?_
  rintro r w3 ⟨ok, rfl, hok, hb3⟩
  have hb13 := hb12.trans (hb3.mono hb12.size)
  obtain rfl : ok = true := hok.2 HP.out
  clear hok HP
  go_wp2_with fail
  all_goals
    refine (sameList_eq _ _ _ ev0F _ _ _ ev0F _ (by omega) (by have := HE.out; omega) (QSl.zero (by have := HE.out; omega)) (QSl.zero (by omega)) (fun i _ => rfl)).mono ?_
    rintro r w4 ⟨rfl, hb4⟩
    go_wp2
    go_ret
    exact ⟨rfl, hb13.trans (hb4.mono hb13.size)⟩

/-- THE WALK, WHOLE: line L holds E from k on, or from k + 1 on where popped -/
theorem lineAfter_any (lb lo : Nat) (L : Ln) (w : World) (ok : LnOK w lb lo L) (clr : ∀ i, i < L.h → L.E i = ev0) (srt : L.srt) (a : Option Addr) (n c k : Nat) (E : Nat → Ev) (hnc : n ≤ c) (q : QSl w w.heap.size a n E) (hnil : a = none → n = 0 ∧ c = 0) (hk : k ≤ n) (p : Bool)
    (hf : p = false → L.live = seg E k (n - k)) (ht : p = true → k < n ∧ L.live = seg E (k + 1) (n - (k + 1))) :
    Calls Try.prog 17 #[.pointer (some ⟨lb, lo, none⟩), .slice a n c, .int .i64 k, .bool p] w fun r w' => r = .returned (.bool true) ∧ Below w.heap.size w w' := by
  cases p with
  | false =>
    have h := hf rfl
    obtain ⟨hl, he⟩ := seg_eq h
    cases a with
    | none =>
      obtain ⟨rfl, rfl⟩ := hnil rfl
      obtain rfl : k = 0 := by omega
      exact lineAfter_nil lb lo L w ok clr srt (by omega)
    | some ad => exact lineAfter_stay lb lo L w ok clr srt ad n c k E hnc q hk hl he
  | true =>
    obtain ⟨hlt, h⟩ := ht rfl
    obtain ⟨hl, he⟩ := seg_eq h
    cases a with
    | none => obtain ⟨rfl, rfl⟩ := hnil rfl; omega
    | some ad => exact lineAfter_gone lb lo L w ok clr srt ad n c k E hnc q hlt hl he
end Go.Proofs.Qxb6613083a
