/-
  A LINE's STATE, and pop on it; ZZlinePop.
-/
import Derived.Test.Qxb6613083aE6
namespace Go.Proofs.Qxb6613083a
open Go.RowKit

/-- A line at ⟨lb, lo⟩ over the row of block b: n events, the head at h. -/
structure LineSt (w : World) (lb lo b n c h : Nat) (E : Nat → Ev) : Prop where
  nc : n ≤ c
  cb : c ≤ 1048576
  hn : h ≤ n / 2
  at_ : LnAt w lb lo (.slice (some ⟨b, 0, none⟩) n c) h
  row : ERow w b n E
  ne : b ≠ lb
theorem LineSt.ch {S : Nat → Nat → Prop} {w w' : World} {lb lo b n c h : Nat} {E : Nat → Ev} (s : LineSt w lb lo b n c h E) (hc : Ch S w w') (h0 : ¬ S lb lo) (h1 : ¬ S lb (lo + 1)) (hb : ∀ o, ¬ S b o) : LineSt w' lb lo b n c h E :=
  ⟨s.nc, s.cb, s.hn, s.at_.ch hc h0 h1, s.row.ch hc hb, s.ne⟩
theorem LineSt.below {w w' : World} {lb lo b n c h : Nat} {E : Nat → Ev} (s : LineSt w lb lo b n c h E) (hb : Below w.heap.size w w') : LineSt w' lb lo b n c h E :=
  s.ch (S := fun _ _ => False) (Ch.ofBelow hb) id id (fun _ h => h)

/-- What pop leaves: the same events but the first; cleared places stay cleared. -/
def Popped (n h : Nat) (E : Nat → Ev) (n' h' : Nat) (E' : Nat → Ev) : Prop :=
  n' - h' + 1 = n - h ∧ h' ≤ n' ∧ (∀ i, i < n' - h' → E' (h' + i) = E (h + 1 + i)) ∧ ((∀ i, i < h → E i = ev0) → ∀ i, i < h' → E' i = ev0)

theorem pop_any (lb lo b n c h : Nat) (E : Nat → Ev) (w : World) (s : LineSt w lb lo b n c h E) (hh : h < n) :
    Calls Try.prog 42 #[.pointer (some ⟨lb, lo, none⟩)] w fun r w' => ∃ n' h' E', r = .returned (.agg #[.int .u64 (E h).hi, .int .u64 (E h).lo, .int .u64 (E h).ord, .int .u8 (E h).kind, .int .i64 (E h).user, .pointer none, .pointer none]) ∧ LineSt w' lb lo b n' c h' E' ∧ Popped n h E n' h' E' ∧ Ch (popS lb lo b) w w' := by
  obtain ⟨nc, cb, hn, l, row, ne⟩ := s
  by_cases hA : h + 1 ≤ n / 2
  · refine (pop_keep lb lo b n c h E w (by omega) hh hA l row ne).mono fun r w' ⟨hr, hl, hrow, hch⟩ => ?_
    refine ⟨n, h + 1, upd E h ev0, hr, ⟨nc, cb, hA, hl, hrow, ne⟩, ⟨by omega, by omega, fun i _ => upd_ne _ _ _ (by omega), fun hz i hi => ?_⟩, hch⟩
    by_cases e : i = h
    · rw [e, upd_same]
    · rw [upd_ne _ _ _ e]; exact hz i (by omega)
  · refine (pop_shift lb lo b n c h E w (by omega) hh nc cb (by omega) l row ne).mono fun r w' ⟨hr, hl, hrow, hch⟩ => ?_
    exact ⟨n - (h + 1), 0, fun i => E (h + 1 + i), hr, ⟨by omega, cb, by omega, hl, hrow, ne⟩, ⟨by omega, by omega, fun i _ => by rw [Nat.zero_add], fun _ i hi => by omega⟩, hch⟩

set_option maxHeartbeats 400000 in
theorem zzpop_any (lb lo b n c h : Nat) (E : Nat → Ev) (w : World) (s : LineSt w lb lo b n c h E) (hh : h < n) :
    Calls Try.prog 29 #[.pointer (some ⟨lb, lo, none⟩)] w fun r w' => ∃ n' h' E', r = .returned (.agg #[.int .u64 (E h).hi, .int .u64 (E h).lo, .int .u64 (E h).ord, .int .u8 (E h).kind, .int .i64 (E h).user, .pointer none, .pointer none]) ∧ LineSt w' lb lo b n' c h' E' ∧ Popped n h E n' h' E' ∧ Ch (popS lb lo b) w w' := by
  obtain ⟨r0, hr0⟩ : ∃ r0, w.heap.size = r0 := ⟨_, rfl⟩
  have hbel : Below w.heap.size w (w.alloc (.cells #[.int .u64 ev0.hi, .int .u64 ev0.lo, .int .u64 ev0.ord, .int .u8 ev0.kind, .int .i64 ev0.user, .pointer none, .pointer none] 41)) := (Below.refl _ _).alloc (Nat.le_refl _) _
  have one0 : One (w.alloc (.cells #[.int .u64 ev0.hi, .int .u64 ev0.lo, .int .u64 ev0.ord, .int .u8 ev0.kind, .int .i64 ev0.user, .pointer none, .pointer none] 41)) r0 ev0 := by rw [← hr0]; exact One.new w ev0
  have s0 := s.below hbel
  have hlw := s.at_.lt
  have hbw := s.row.lt
  have hch : Ch (popS lb lo b) w (w.alloc (.cells #[.int .u64 ev0.hi, .int .u64 ev0.lo, .int .u64 ev0.ord, .int .u8 ev0.kind, .int .i64 ev0.user, .pointer none, .pointer none] 41)) := Ch.ofBelow hbel
  go_enter Try.func29, Try.ntmps29
  go_wp2_with fail
  change Calls _ _ _ (w.alloc (.cells #[.int .u64 ev0.hi, .int .u64 ev0.lo, .int .u64 ev0.ord, .int .u8 ev0.kind, .int .i64 ev0.user, .pointer none, .pointer none] 41)) _
  generalize w.alloc (.cells #[.int .u64 ev0.hi, .int .u64 ev0.lo, .int .u64 ev0.ord, .int .u8 ev0.kind, .int .i64 ev0.user, .pointer none, .pointer none] 41) = W0 at *
  refine (pop_any lb lo b n c h E _ s0 hh).mono ?_
  rintro r w1 ⟨n', h', E', rfl, s1, hp, hc1⟩
  have oneZ := one0.ch hc1 (fun _ e => by rcases e with e | e; exact (by omega); exact (by have := e.1; omega))
  have hch1 := hch.trans hc1
  clear s0 one0 hch hbel
  obtain ⟨z0, z1, z2, z3, z4, z5, z6⟩ := oneZ.at_
  obtain ⟨y0, y1, y2, y3, y4, y5, y6⟩ := oneZ.free
  have HS : Hid (LineSt w1 lb lo b n' c h' E') := s1
  have HP : Hid (Popped n h E n' h' E') := hp
  have HC : Hid (Ch (popS lb lo b) w w1) := hch1
  have HO : Hid (One w1 r0 ev0) := oneZ
  clear s1 hp hch1 oneZ s hc1
  go_wp2
  clear z0 z1 z2 z3 z4 z5 z6 y0 y1 y2 y3 y4 y5 y6
  change bodyPost _ _ _ _ _ (w1.setCells r0 0 (ecells (E h)))
  have oneF := HO.out.set (E h)
  have hc9 : Ch (fun r _ => r = r0) w1 (w1.setCells r0 0 (ecells (E h))) := Ch.setCells r0 _ _ (Ch.refl _ w1) (fun _ _ _ => rfl)
  have s9 := HS.out.ch hc9 (fun e => by have : lb = r0 := e; omega) (fun e => by have : lb = r0 := e; omega) (fun _ e => by have : b = r0 := e; omega)
  have ch9 : Ch (popS lb lo b) w (w1.setCells r0 0 (ecells (E h))) := Ch.setCells r0 _ _ HC.out (fun _ _ e => by omega)
  generalize w1.setCells r0 0 (ecells (E h)) = W9 at *
  obtain ⟨x0, x1, x2, x3, x4, x5, x6⟩ := oneF.at_
  exact bodyPost_ret (v := .agg #[.int .u64 (E h).hi, .int .u64 (E h).lo, .int .u64 (E h).ord, .int .u8 (E h).kind, .int .i64 (E h).user, .pointer none, .pointer none]) (by simp [results, Try.results29, go_sem, x0, x1, x2, x3, x4, x5, x6]) rfl ⟨n', h', E', rfl, s9, HP.out, ch9⟩
end Go.Proofs.Qxb6613083a
