/-
  WALKS of ZZqueuePop, ZZnewQueue, ZZqueueLine, ZZqueueTimed, ZZqueueDelay.
-/
import Derived.Test.Qxb6613083aF4
namespace Go.Proofs.Qxb6613083a
open Go.RowKit Go.BigFrame

theorem LnOK.ch' {S : Nat → Nat → Prop} {w w' : World} {qb lo : Nat} {L : Ln} (s : LnOK w qb lo L) (hc : Ch S w w') (h0 : ¬ S qb lo) (h1 : ¬ S qb (lo + 1)) (hb : 0 < L.n → ∀ o, ¬ S L.b o) : LnOK w' qb lo L :=
  ⟨s.nc, s.cb, s.hn, s.at_.ch hc h0 h1, fun h => ⟨(s.row h).1, (s.row h).2.ch hc (hb h)⟩, s.ne⟩
theorem TmOK.ch' {S : Nat → Nat → Prop} {w w' : World} {qb qo : Nat} {t : Tm} (s : TmOK w qb qo t) (hc : Ch S w w') (h0 : ¬ S qb qo) (hb : 0 < t.n → ∀ o, ¬ S t.b o) : TmOK w' qb qo t :=
  ⟨s.nc, s.cb, s.at_.ch hc h0, fun h => ⟨(s.row h).1, (s.row h).2.ch hc (hb h)⟩, s.heap, s.ne⟩
theorem QSt.ch' {S : Nat → Nat → Prop} {w w' : World} {B qb : Nat} {dl : Int} {s : Qs} (h : QSt w B qb dl s) (hc : Ch S w w') (h0 : ∀ o, ¬ S qb o) (b0 : 0 < s.l0.n → ∀ o, ¬ S s.l0.b o) (b1 : 0 < s.l1.n → ∀ o, ¬ S s.l1.b o) (bt : 0 < s.tm.n → ∀ o, ¬ S s.tm.b o) : QSt w' B qb dl s :=
  ⟨(hc.cell _ _ (World.block_lt_of_cell? w _ h.d) (h0 _)).trans h.d, h.q0.ch' hc (h0 _) (h0 _) b0, h.q1.ch' hc (h0 _) (h0 _) b1, h.qt.ch' hc (h0 _) bt, h.n01, h.n0t, h.n1t, h.Bq, h.B0, h.B1, h.Bt⟩
theorem LPop.b {L L' : Ln} {e : Ev} (h : LPop L L' e) : L'.b = L.b ∧ (0 < L'.n → 0 < L.n) := ⟨h.2.2.1, fun _ => by have := h.1; omega⟩
theorem TPop.b {t t' : Tm} {e : Ev} (h : TPop t t' e) : t'.b = t.b ∧ (0 < t'.n → 0 < t.n) := ⟨h.2.2.1, fun _ => by have := h.1; omega⟩
theorem Step.b {s s' : Qs} {e : Ev} (h : Step s s' e) : (s'.l0.b = s.l0.b ∧ (0 < s'.l0.n → 0 < s.l0.n)) ∧ (s'.l1.b = s.l1.b ∧ (0 < s'.l1.n → 0 < s.l1.n)) ∧ (s'.tm.b = s.tm.b ∧ (0 < s'.tm.n → 0 < s.tm.n)) := by
  rcases h.2 with ⟨h1, h2, h3⟩ | ⟨h1, h2, h3⟩ | ⟨h1, h2, h3⟩
  · rw [h2, h3]; exact ⟨h1.b, ⟨rfl, id⟩, ⟨rfl, id⟩⟩
  · rw [h2, h3]; exact ⟨⟨rfl, id⟩, h1.b, ⟨rfl, id⟩⟩
  · rw [h2, h3]; exact ⟨⟨rfl, id⟩, ⟨rfl, id⟩, h1.b⟩

set_option maxHeartbeats 400000 in
theorem zzqpop_any (B qb : Nat) (dl : Int) (s : Qs) (w : World) (hq : QSt w B qb dl s) (hB : B ≤ w.heap.size) (hne : s.l0.h < s.l0.n ∨ s.l1.h < s.l1.n ∨ 0 < s.tm.n) :
    Calls Try.prog 15 #[.pointer (some ⟨qb, 0, none⟩)] w fun r w' => ∃ s' e, r = .returned (.agg #[.int .u64 e.hi, .int .u64 e.lo, .int .u64 e.ord, .int .u8 e.kind, .int .i64 e.user, .pointer none, .pointer none]) ∧ QSt w' B qb dl s' ∧ Step s s' e ∧ Below B w w' := by
  obtain ⟨r0, hr0⟩ : ∃ r0, w.heap.size = r0 := ⟨_, rfl⟩
  have hbel : Below w.heap.size w (w.alloc (.cells #[.int .u64 ev0.hi, .int .u64 ev0.lo, .int .u64 ev0.ord, .int .u8 ev0.kind, .int .i64 ev0.user, .pointer none, .pointer none] 41)) := (Below.refl _ _).alloc (Nat.le_refl _) _
  have one0 : One (w.alloc (.cells #[.int .u64 ev0.hi, .int .u64 ev0.lo, .int .u64 ev0.ord, .int .u8 ev0.kind, .int .i64 ev0.user, .pointer none, .pointer none] 41)) r0 ev0 := by rw [← hr0]; exact One.new w ev0
  have hs0 : r0 < (w.alloc (.cells #[.int .u64 ev0.hi, .int .u64 ev0.lo, .int .u64 ev0.ord, .int .u8 ev0.kind, .int .i64 ev0.user, .pointer none, .pointer none] 41)).heap.size := by simp [hr0]
  have hqW := hq.below hbel
  have hB0 : Below B w (w.alloc (.cells #[.int .u64 ev0.hi, .int .u64 ev0.lo, .int .u64 ev0.ord, .int .u8 ev0.kind, .int .i64 ev0.user, .pointer none, .pointer none] 41)) := hbel.mono hB
  go_enter Try.func15, Try.ntmps15
  go_wp2_with fail
  change Calls _ _ _ (w.alloc (.cells #[.int .u64 ev0.hi, .int .u64 ev0.lo, .int .u64 ev0.ord, .int .u8 ev0.kind, .int .i64 ev0.user, .pointer none, .pointer none] 41)) _
  generalize w.alloc (.cells #[.int .u64 ev0.hi, .int .u64 ev0.lo, .int .u64 ev0.ord, .int .u8 ev0.kind, .int .i64 ev0.user, .pointer none, .pointer none] 41) = W0 at *
  refine (qpop_any B qb dl s W0 hqW (Nat.le_trans hB hbel.size) hne).mono ?_
  rintro r w1 ⟨s', e, rfl, q1, st1, hB1, hc1⟩
  have hqb : qb < r0 := by rw [← hr0]; exact World.block_lt_of_cell? _ _ hq.d
  have hb0 : 0 < s.l0.n → s.l0.b < r0 := fun h => by rw [← hr0]; exact (hq.q0.row h).2.lt
  have hb1 : 0 < s.l1.n → s.l1.b < r0 := fun h => by rw [← hr0]; exact (hq.q1.row h).2.lt
  have hbt : 0 < s.tm.n → s.tm.b < r0 := fun h => by rw [← hr0]; exact (hq.qt.row h).2.lt
  have oneZ := one0.ch hc1 (fun _ e => by
    rcases e with e | ⟨h, e⟩ | ⟨h, e⟩ | ⟨h, e⟩
    · omega
    · have := hb0 h; omega
    · have := hb1 h; omega
    · have := hbt h; omega)
  obtain ⟨z0, z1, z2, z3, z4, z5, z6⟩ := oneZ.at_
  obtain ⟨y0, y1, y2, y3, y4, y5, y6⟩ := oneZ.free
  have HO : Hid (One w1 r0 ev0) := oneZ
  have HQ1 : Hid (QSt w1 B qb dl s' ∧ Step s s' e) := ⟨q1, st1⟩
  have HBB : Hid (Below B w w1) := hB0.trans hB1
  have HBl : Hid ((0 < s.l0.n → s.l0.b < r0) ∧ (0 < s.l1.n → s.l1.b < r0) ∧ (0 < s.tm.n → s.tm.b < r0)) := ⟨hb0, hb1, hbt⟩
  have HWW : Hid (Ch (qS qb s) w w1) := (Ch.ofBelow hbel).trans hc1
  clear oneZ q1 st1 hB1 hB0 hqW hq hc1 hne hb0 hb1 hbt
  go_wp2
  clear z0 z1 z2 z3 z4 z5 z6 y0 y1 y2 y3 y4 y5 y6
  change bodyPost _ _ _ _ _ (w1.setCells r0 0 (ecells e))
  have oneF := HO.out.set e
  have hc9 : Ch (fun r _ => r = r0) w1 (w1.setCells r0 0 (ecells e)) := Ch.setCells r0 _ _ (Ch.refl _ w1) (fun _ _ _ => rfl)
  have hb := HQ1.out.2.b
  have q9 := HQ1.out.1.ch' hc9 (fun _ e => by have : qb = r0 := e; omega) (fun h _ e => by have e' : s'.l0.b = r0 := e; rw [hb.1.1] at e'; have := HBl.out.1 (hb.1.2 h); omega)
    (fun h _ e => by have e' : s'.l1.b = r0 := e; rw [hb.2.1.1] at e'; have := HBl.out.2.1 (hb.2.1.2 h); omega) (fun h _ e => by have e' : s'.tm.b = r0 := e; rw [hb.2.2.1] at e'; have := HBl.out.2.2 (hb.2.2.2 h); omega)
  have B9 : Below B w (w1.setCells r0 0 (ecells e)) := HBB.out.trans (hc9.below (Nat.le_trans hB HBB.out.size) (fun r _ hr e => by have : r = r0 := e; omega))
  generalize w1.setCells r0 0 (ecells e) = W9 at *
  obtain ⟨x0, x1, x2, x3, x4, x5, x6⟩ := oneF.at_
  exact bodyPost_ret (v := .agg #[.int .u64 e.hi, .int .u64 e.lo, .int .u64 e.ord, .int .u8 e.kind, .int .i64 e.user, .pointer none, .pointer none]) (by simp [results, Try.results15, go_sem, x0, x1, x2, x3, x4, x5, x6]) rfl ⟨s', e, rfl, q9, HQ1.out.2, B9⟩

/-! ### the small ones -/
theorem queueTimed_any (qb : Nat) (v : Value) (w : World) (h : ∃ a n c, v = .slice a n c) (hv : TmAt w qb 5 v) :
    Calls Try.prog 20 #[.pointer (some ⟨qb, 0, none⟩)] w fun r w' => r = .returned v ∧ w' = w := by
  obtain ⟨a, n, c, rfl⟩ := h
  obtain ⟨c0, f0⟩ := hv
  go_enter Try.func20, Try.ntmps20
  go_wp2
  go_ret
  exact ⟨rfl, rfl⟩
theorem queueDelay_any (qb : Nat) (dl : Int) (w : World) (hv : w.cell? ⟨qb, 0, none⟩ = some (.int .u64 dl)) :
    Calls Try.prog 16 #[.pointer (some ⟨qb, 0, none⟩)] w fun r w' => r = .returned (.int .u64 dl) ∧ w' = w := by
  go_enter Try.func16, Try.ntmps16
  go_wp2
  go_ret
  exact ⟨rfl, rfl⟩
theorem queueLine0 (qb : Nat) (w : World) : Calls Try.prog 18 #[.pointer (some ⟨qb, 0, none⟩), .int .i64 0] w fun r w' => r = .returned (.pointer (some ⟨qb, 1, none⟩)) ∧ w' = w := by
  go_enter Try.func18, Try.ntmps18
  go_wp2
  go_ret
  exact ⟨rfl, rfl⟩
theorem queueLine1 (qb : Nat) (w : World) : Calls Try.prog 18 #[.pointer (some ⟨qb, 0, none⟩), .int .i64 1] w fun r w' => r = .returned (.pointer (some ⟨qb, 3, none⟩)) ∧ w' = w := by
  go_enter Try.func18, Try.ntmps18
  go_wp2
  go_ret
  exact ⟨rfl, rfl⟩
set_option maxHeartbeats 400000 in
theorem newQueue_any (dl : Int) (a0 : Option Addr) (n0 c0 : Nat) (h0 : Int) (a1 : Option Addr) (n1 c1 : Nat) (h1 : Int) (at_ : Option Addr) (nt ct : Nat) (w : World) :
    Calls Try.prog 12 #[.int .u64 dl, .slice a0 n0 c0, .int .i64 h0, .slice a1 n1 c1, .int .i64 h1, .slice at_ nt ct] w fun r w' => r = .returned (.pointer (some ⟨w.heap.size, 0, none⟩)) ∧
      w'.cell? ⟨w.heap.size, 0, none⟩ = some (.int .u64 dl) ∧ LnAt w' w.heap.size 1 (.slice a0 n0 c0) h0 ∧ LnAt w' w.heap.size 3 (.slice a1 n1 c1) h1 ∧ TmAt w' w.heap.size 5 (.slice at_ nt ct) ∧ Below w.heap.size w w' := by
  go_enter Try.func12, Try.ntmps12
  go_wp2
  go_ret
  exact ⟨rfl, by simp, ⟨by simp, by simp, by simp, by simp⟩, ⟨by simp, by simp, by simp, by simp⟩, ⟨by simp, by simp⟩, (Below.refl _ _).alloc (Nat.le_refl _) _⟩
end Go.Proofs.Qxb6613083a
