/-
  WALK of line.pop.
-/
import Derived.Test.Qxb6613083aE4
import Derived.Deep.DeepCutAuto
namespace Go.Proofs.Qxb6613083a
open Go.RowKit

/-- one event at the head of a block -/
abbrev EOne (w : World) (b : Nat) (e : Ev) : Prop :=
  w.cell? ⟨b, 0, none⟩ = some (.int .u64 e.hi) ∧ w.cell? ⟨b, 1, none⟩ = some (.int .u64 e.lo) ∧ w.cell? ⟨b, 2, none⟩ = some (.int .u64 e.ord) ∧ w.cell? ⟨b, 3, none⟩ = some (.int .u8 e.kind) ∧ w.cell? ⟨b, 4, none⟩ = some (.int .i64 e.user) ∧ w.cell? ⟨b, 5, none⟩ = some (.pointer none) ∧ w.cell? ⟨b, 6, none⟩ = some (.pointer none)
abbrev EOneF (w : World) (b : Nat) : Prop :=
  w.frozen? ⟨b, 0, none⟩ = false ∧ w.frozen? ⟨b, 1, none⟩ = false ∧ w.frozen? ⟨b, 2, none⟩ = false ∧ w.frozen? ⟨b, 3, none⟩ = false ∧ w.frozen? ⟨b, 4, none⟩ = false ∧ w.frozen? ⟨b, 5, none⟩ = false ∧ w.frozen? ⟨b, 6, none⟩ = false
/-- A block that is one event, which may be written. -/
structure One (w : World) (b : Nat) (e : Ev) : Prop where
  lt : b < w.heap.size
  at_ : EOne w b e
  free : EOneF w b
theorem One.ch {S : Nat → Nat → Prop} {w w' : World} {b : Nat} {e : Ev} (h : One w b e) (hc : Ch S w w') (hS : ∀ o, ¬ S b o) : One w' b e := by
  have k : ∀ o, w'.cell? ⟨b, o, none⟩ = w.cell? ⟨b, o, none⟩ := fun o => hc.cell b o h.lt (hS o)
  have f : ∀ o, w'.frozen? ⟨b, o, none⟩ = w.frozen? ⟨b, o, none⟩ := fun o => hc.frozen b o h.lt
  obtain ⟨hl, ⟨a0, a1, a2, a3, a4, a5, a6⟩, ⟨f0, f1, f2, f3, f4, f5, f6⟩⟩ := h
  exact ⟨Nat.lt_of_lt_of_le hl hc.size, ⟨(k _).trans a0, (k _).trans a1, (k _).trans a2, (k _).trans a3, (k _).trans a4, (k _).trans a5, (k _).trans a6⟩, ⟨(f _).trans f0, (f _).trans f1, (f _).trans f2, (f _).trans f3, (f _).trans f4, (f _).trans f5, (f _).trans f6⟩⟩
theorem One.below {w w' : World} {b : Nat} {e : Ev} (h : One w b e) (hb : Below w.heap.size w w') : One w' b e := h.ch (S := fun _ _ => False) (Ch.ofBelow hb) (fun _ h => h)
theorem One.new (w : World) (e : Ev) : One (w.alloc (.cells #[.int .u64 e.hi, .int .u64 e.lo, .int .u64 e.ord, .int .u8 e.kind, .int .i64 e.user, .pointer none, .pointer none] 41)) w.heap.size e :=
  ⟨alloc_lt _ _, ⟨alloc_cell _ _ _ _, alloc_cell _ _ _ _, alloc_cell _ _ _ _, alloc_cell _ _ _ _, alloc_cell _ _ _ _, alloc_cell _ _ _ _, alloc_cell _ _ _ _⟩, ⟨alloc_free _ _ _ _, alloc_free _ _ _ _, alloc_free _ _ _ _, alloc_free _ _ _ _, alloc_free _ _ _ _, alloc_free _ _ _ _, alloc_free _ _ _ _⟩⟩

/-- what pop may write: the row and the line's two cells -/
def popS (lb lo b : Nat) : Nat → Nat → Prop := fun r o => r = b ∨ (r = lb ∧ (o = lo ∨ o = lo + 1))

/-- what pop reads: the line's two cells, its first event -/
abbrev PS (w : World) (lb lo b n c h : Nat) (e : Ev) : Prop := w.cell? ⟨lb, lo, none⟩ = some (.slice (some ⟨b, 0, none⟩) n c) ∧ w.cell? ⟨lb, lo + 1, none⟩ = some (.int .i64 h) ∧ EAt w b (h * 7) e
theorem PS.below {w w' : World} {lb lo b n c h : Nat} {e : Ev} (s : PS w lb lo b n c h e) (hb : Below w.heap.size w w') : PS w' lb lo b n c h e :=
  ⟨(hb.cell (World.block_lt_of_cell? w _ s.1)).trans s.1, (hb.cell (World.block_lt_of_cell? w _ s.2.1)).trans s.2.1, s.2.2.below s.2.2.lt hb⟩

theorem cell_set_same {w : World} {b o : Nat} {v u : Value} (h : w.cell? ⟨b, o, none⟩ = some u) : (w.setCell ⟨b, o, none⟩ v).cell? ⟨b, o, none⟩ = some v := by
  have := World.cell?_setCells_in b [v] o w (fun j hj => by
    have e : j = 0 := by simpa using hj
    subst e; rw [Nat.add_zero, h]; rfl) 0 (by simp)
  simpa [World.setCells] using this
theorem LnAt.setHead {w : World} {lb lo : Nat} {v : Value} {h : Int} (l : LnAt w lb lo v h) (h' : Int) : LnAt (w.setCell ⟨lb, lo + 1, none⟩ (.int .i64 h')) lb lo v h' := by
  have hc : Ch (fun r o => r = lb ∧ o = lo + 1) w (w.setCell ⟨lb, lo + 1, none⟩ (.int .i64 h')) := (Ch.refl _ w).setCell _ _ _ (fun _ => ⟨rfl, rfl⟩)
  exact ⟨(hc.cell _ _ l.lt (fun e => by have := e.2; omega)).trans l.c0, cell_set_same l.c1, (hc.frozen _ _ l.lt).trans l.f0, (hc.frozen _ _ l.lt).trans l.f1⟩
theorem LnAt.setSl {w : World} {lb lo : Nat} {v : Value} {h : Int} (l : LnAt w lb lo v h) (v' : Value) : LnAt (w.setCell ⟨lb, lo, none⟩ v') lb lo v' h := by
  have hc : Ch (fun r o => r = lb ∧ o = lo) w (w.setCell ⟨lb, lo, none⟩ v') := (Ch.refl _ w).setCell _ _ _ (fun _ => ⟨rfl, rfl⟩)
  exact ⟨cell_set_same l.c0, (hc.cell _ _ l.lt (fun e => by have := e.2; omega)).trans l.c1, (hc.frozen _ _ l.lt).trans l.f0, (hc.frozen _ _ l.lt).trans l.f1⟩
/-- the zero result filled with what a one-event block holds -/
theorem One.set {w : World} {b : Nat} {e : Ev} (h : One w b e) (e' : Ev) : One (w.setCells b 0 (ecells e')) b e' := by
  obtain ⟨hl, ⟨a0, a1, a2, a3, a4, a5, a6⟩, ⟨f0, f1, f2, f3, f4, f5, f6⟩⟩ := h
  have hc : Ch (fun _ _ => True) w (w.setCells b 0 (ecells e')) := Ch.setCells b (ecells e') 0 (Ch.refl _ w) (fun _ _ _ => trivial)
  have ht : w.there b 0 (ecells e').length := by
    intro j hj
    match j, hj with
    | 0, _ => exact ⟨by rw [Nat.zero_add, a0]; rfl, f0⟩
    | 1, _ => exact ⟨by rw [a1]; rfl, f1⟩
    | 2, _ => exact ⟨by rw [a2]; rfl, f2⟩
    | 3, _ => exact ⟨by rw [a3]; rfl, f3⟩
    | 4, _ => exact ⟨by rw [a4]; rfl, f4⟩
    | 5, _ => exact ⟨by rw [a5]; rfl, f5⟩
    | 6, _ => exact ⟨by rw [a6]; rfl, f6⟩
    | j + 7, hj => simp [ecells] at hj; omega
  have hr := World.rangeAt_setCells_same w b 0 (ecells e') ht
  have f : ∀ o, (w.setCells b 0 (ecells e')).frozen? ⟨b, o, none⟩ = w.frozen? ⟨b, o, none⟩ := fun o => hc.frozen b o hl
  refine ⟨Nat.lt_of_lt_of_le hl hc.size, ?_, ⟨(f _).trans f0, (f _).trans f1, (f _).trans f2, (f _).trans f3, (f _).trans f4, (f _).trans f5, (f _).trans f6⟩⟩
  have k : ∀ j v, (ecells e')[j]? = some v → (w.setCells b 0 (ecells e')).cell? ⟨b, j, none⟩ = some v := fun j v hv => by have := hr j v hv; rwa [Nat.zero_add] at this
  exact ⟨k 0 _ rfl, k 1 _ rfl, k 2 _ rfl, k 3 _ rfl, k 4 _ rfl, k 5 _ rfl, k 6 _ rfl⟩

set_option maxHeartbeats 2000000 in
theorem pop_keep (lb lo b n c h : Nat) (E : Nat → Ev) (w : World) (hn : n ≤ 1048576) (hh : h < n) (hA : h + 1 ≤ n / 2) (l : LnAt w lb lo (.slice (some ⟨b, 0, none⟩) n c) h) (row : ERow w b n E) (hne : b ≠ lb) :
    Calls Try.prog 42 #[.pointer (some ⟨lb, lo, none⟩)] w fun r w' => r = .returned (.agg #[.int .u64 (E h).hi, .int .u64 (E h).lo, .int .u64 (E h).ord, .int .u8 (E h).kind, .int .i64 (E h).user, .pointer none, .pointer none]) ∧ LnAt w' lb lo (.slice (some ⟨b, 0, none⟩) n c) ((h + 1 : Nat) : Int) ∧ ERow w' b n (upd E h ev0) ∧ Ch (popS lb lo b) w w' := by
  obtain ⟨r0, hr0⟩ : ∃ r0, w.heap.size = r0 := ⟨_, rfl⟩
  have hi : (h : Int) < n := by omega
  go_enter Try.func42, Try.ntmps42
  go_upto_region 1 with fail
  -- the result's block
  have hbel : Below w.heap.size w (w.alloc (.cells #[.int .u64 ev0.hi, .int .u64 ev0.lo, .int .u64 ev0.ord, .int .u8 ev0.kind, .int .i64 ev0.user, .pointer none, .pointer none] 41)) := (Below.refl _ _).alloc (Nat.le_refl _) _
  have one0 : One (w.alloc (.cells #[.int .u64 ev0.hi, .int .u64 ev0.lo, .int .u64 ev0.ord, .int .u8 ev0.kind, .int .i64 ev0.user, .pointer none, .pointer none] 41)) r0 ev0 := by rw [← hr0]; exact One.new w ev0
  have hs0 : (w.alloc (.cells #[.int .u64 ev0.hi, .int .u64 ev0.lo, .int .u64 ev0.ord, .int .u8 ev0.kind, .int .i64 ev0.user, .pointer none, .pointer none] 41)).heap.size = r0 + 1 := by simp [hr0]
  have l0 := l.below hbel
  have row0 := row.below hbel
  have hlw := l.lt
  have hbw := row.lt
  have hch : Ch (popS lb lo b) w (w.alloc (.cells #[.int .u64 ev0.hi, .int .u64 ev0.lo, .int .u64 ev0.ord, .int .u8 ev0.kind, .int .i64 ev0.user, .pointer none, .pointer none] 41)) := Ch.ofBelow hbel
  change Code.wp _ _ _ _ (w.alloc (.cells #[.int .u64 ev0.hi, .int .u64 ev0.lo, .int .u64 ev0.ord, .int .u8 ev0.kind, .int .i64 ev0.user, .pointer none, .pointer none] 41))
  generalize w.alloc (.cells #[.int .u64 ev0.hi, .int .u64 ev0.lo, .int .u64 ev0.ord, .int .u8 ev0.kind, .int .i64 ev0.user, .pointer none, .pointer none] 41) = W0 at *
  clear hbel l row
  have HR : Hid (ERow W0 b n E) := row0
  have HL : Hid (LnAt W0 lb lo (.slice (some ⟨b, 0, none⟩) n c) h) := l0
  have HO : Hid (One W0 r0 ev0) := one0
  have HC : Hid (Ch (popS lb lo b) w W0) := hch
  have e1 := row0.at_ h hh
  obtain ⟨c0, c1, f0, f1⟩ := l0
  clear row0 one0 hch
  go_cut [3] (fun s wx => s = .pointer (some ⟨r0 + 1, 0, none⟩) ∧ One wx (r0 + 1) (E h) ∧ Below W0.heap.size W0 wx)
  case first =>
    have s0 : PS W0 lb lo b n c h (E h) := ⟨c0, c1, e1⟩
    have s1 : PS W0.drew lb lo b n c h (E h) := s0
    have s2 : ∀ ob, PS (W0.alloc ob).drew lb lo b n c h (E h) := fun ob => s0.below (((Below.refl _ W0).alloc (Nat.le_refl _) ob).drew)
    go_region_held3 (fun w' => PS w' lb lo b n c h (E h)) (first | with_reducible exact s1 | with_reducible exact s2 _) (fail)
    go_wp2
    go_meet
    refine ⟨rfl, ?_, ((Below.refl _ W0).alloc (Nat.le_refl _) _).drew⟩
    rw [← hs0]
    exact (One.new W0 (E h)).ch (S := fun _ _ => False) (Ch.ofBelow (Below.refl _ _).drew) (fun _ h => h)
  case rest =>
    obtain ⟨rfl, oneE, hb1⟩ := hcut
    have row1 := HR.out.below hb1
    have l1 := HL.out.below hb1
    have oneZ := HO.out.below hb1
    have ch1 := HC.out.trans (Ch.ofBelow hb1)
    clear HR HL HO HC e1 c0 c1 f0 f1 hb1
    go_upto_region 2 with fail
    obtain ⟨g10, g11, g12, g13, g14, g15, g16⟩ := row1.at_ h hh
    obtain ⟨q10, q11, q12, q13, q14, q15, q16⟩ := row1.fr (h * 7)
    obtain ⟨c0, c1, f0, f1⟩ := l1
    have HR : Hid (ERow wc b n E) := row1
    have HL : Hid (LnAt wc lb lo (.slice (some ⟨b, 0, none⟩) n c) h) := ⟨c0, c1, f0, f1⟩
    have HZ : Hid (One wc r0 ev0) := oneZ
    have HE : Hid (One wc (r0 + 1) (E h)) := oneE
    have HC : Hid (Ch (popS lb lo b) w wc) := ch1
    clear row1 oneZ oneE ch1
    have hch2 : Ch (popS lb lo b) wc (wc.setCells b (h * 7) (ecells ev0)) := Ch.setCells b _ _ (Ch.refl _ _) (fun _ _ _ => .inl rfl)
    have l2 : LnAt (wc.setCells b (h * 7) (ecells ev0)) lb lo (.slice (some ⟨b, 0, none⟩) n c) h := HL.out.ch (Ch.setCells (S := fun r _ => r = b) b _ _ (Ch.refl _ _) (fun _ _ _ => rfl)) (fun e => hne e.symm) (fun e => hne e.symm)
    go_cut [] (fun wx => LnAt wx lb lo (.slice (some ⟨b, 0, none⟩) n c) h ∧ ERow wx b n (upd E h ev0) ∧ One wx r0 ev0 ∧ One wx (r0 + 1) (E h) ∧ Ch (popS lb lo b) w wx)
    case first =>
      have s1 : wc.drew.cell? ⟨lb, lo, none⟩ = some (.slice (some ⟨b, 0, none⟩) n c) ∧ wc.drew.cell? ⟨lb, lo + 1, none⟩ = some (.int .i64 h) := ⟨c0, c1⟩
      have s2 : (wc.setCells b (h * 7) (ecells ev0)).drew.cell? ⟨lb, lo, none⟩ = some (.slice (some ⟨b, 0, none⟩) n c) ∧ (wc.setCells b (h * 7) (ecells ev0)).drew.cell? ⟨lb, lo + 1, none⟩ = some (.int .i64 h) := ⟨(l2.below (Below.refl _ _).drew).c0, (l2.below (Below.refl _ _).drew).c1⟩
      simp only [World.setCells, ecells, ev0, Nat.add_assoc, Nat.reduceAdd] at s2
      go_region_held3 (fun w' => w'.cell? ⟨lb, lo, none⟩ = some (.slice (some ⟨b, 0, none⟩) n c) ∧ w'.cell? ⟨lb, lo + 1, none⟩ = some (.int .i64 h)) (first | with_reducible exact s1 | with_reducible exact s2) (fail)
      go_wp2
      go_meet
      have hdr : ∀ W : World, Below W.heap.size W W.drew := fun W => (Below.refl _ W).drew
      have hneZ : ∀ o, ¬ (fun r (_ : Nat) => r = b) r0 o := fun _ e => by have : r0 = b := e; omega
      have hneE : ∀ o, ¬ (fun r (_ : Nat) => r = b) (r0 + 1) o := fun _ e => by have : r0 + 1 = b := e; omega
      have hcb : Ch (fun r _ => r = b) wc (wc.setCells b (h * 7) (ecells ev0)) := Ch.setCells b _ _ (Ch.refl _ _) (fun _ _ _ => rfl)
      exact ⟨l2.below (hdr _), (HR.out.set hh ev0).below (hdr _), (HZ.out.ch hcb hneZ).below (hdr _), (HE.out.ch hcb hneE).below (hdr _), (HC.out.trans hch2).drew⟩
    case rest =>
      obtain ⟨l3, row3, oneZ, oneE, ch3⟩ := hcut
      clear HR HL HZ HE HC hch2 l2 c0 c1 f0 f1 g10 g11 g12 g13 g14 g15 g16 q10 q11 q12 q13 q14 q15 q16
      obtain ⟨c0, c1, f0, f1⟩ := l3
      go_upto_region 4 with fail
      have l4 : LnAt (wc.setCell ⟨lb, lo + 1, none⟩ (.int .i64 ((h : Int) + 1))) lb lo (.slice (some ⟨b, 0, none⟩) n c) ((h : Int) + 1) := LnAt.setHead ⟨c0, c1, f0, f1⟩ _
      have hc4 : Ch (fun r o => r = lb ∧ o = lo + 1) wc (wc.setCell ⟨lb, lo + 1, none⟩ (.int .i64 ((h : Int) + 1))) := (Ch.refl _ wc).setCell _ _ _ (fun _ => ⟨rfl, rfl⟩)
      have row4 := row3.ch hc4 (fun _ e => hne e.1)
      have oneZ4 := oneZ.ch hc4 (fun _ e => by have : r0 = lb := e.1; omega)
      have oneE4 := oneE.ch hc4 (fun _ e => by have : r0 + 1 = lb := e.1; omega)
      have ch4 := ch3.trans (hc4.mono (T := popS lb lo b) (fun r o _ e => .inr ⟨e.1, .inr e.2⟩))
      generalize wc.setCell ⟨lb, lo + 1, none⟩ (.int .i64 ((h : Int) + 1)) = W4 at *
      clear c0 c1 f0 f1 hc4 row3 oneZ oneE ch3
      obtain ⟨c0, c1, f0, f1⟩ := l4
      have HR : Hid (ERow W4 b n (upd E h ev0)) := row4
      have HL : Hid (LnAt W4 lb lo (.slice (some ⟨b, 0, none⟩) n c) ((h : Int) + 1)) := ⟨c0, c1, f0, f1⟩
      have HC : Hid (Ch (popS lb lo b) w W4) := ch4
      have HZ : Hid (One W4 r0 ev0) := oneZ4
      have HE : Hid (One W4 (r0 + 1) (E h)) := oneE4
      clear row4 ch4
      have hq2 : IntKind.i64.wrap ((n : Int).tdiv 2) = ((n / 2 : Nat) : Int) := by rw [IntKind.wrap_i64, Int.tdiv_eq_ediv_of_nonneg (by omega)]; omega
      have hd : decide (((n / 2 : Nat) : Int) < (h : Int) + 1) = false := decide_eq_false (by omega)
      obtain ⟨z0, z1, z2, z3, z4, z5, z6⟩ := oneZ4.at_
      obtain ⟨y0, y1, y2, y3, y4, y5, y6⟩ := oneZ4.free
      obtain ⟨e0, e1, e2, e3, e4, e5, e6⟩ := oneE4.at_
      clear oneZ4 oneE4
      go_quiet (fail)
      go_wp2
      have oneF : One ((W4.drewN nq).setCells r0 0 (ecells (E h))) r0 (E h) := (HZ.out.below (below_drewN (Below.refl _ _) nq)).set (E h)
      have hc5 : Ch (fun r _ => r = r0) W4 ((W4.drewN nq).setCells r0 0 (ecells (E h))) := Ch.setCells r0 _ _ ((Ch.refl _ W4).drewN nq) (fun _ _ _ => rfl)
      have l5 := HL.out.ch hc5 (fun e => by have : lb = r0 := e; omega) (fun e => by have : lb = r0 := e; omega)
      have row5 := HR.out.ch hc5 (fun _ e => by have : b = r0 := e; omega)
      have ch5 : Ch (popS lb lo b) w ((W4.drewN nq).setCells r0 0 (ecells (E h))) := Ch.setCells r0 _ _ (HC.out.drewN nq) (fun _ _ e => by omega)
      change bodyPost _ _ _ _ _ ((W4.drewN nq).setCells r0 0 (ecells (E h)))
      generalize (W4.drewN nq).setCells r0 0 (ecells (E h)) = W5 at *
      obtain ⟨x0, x1, x2, x3, x4, x5, x6⟩ := oneF.at_
      clear z0 z1 z2 z3 z4 z5 z6 y0 y1 y2 y3 y4 y5 y6 e0 e1 e2 e3 e4 e5 e6
      exact bodyPost_ret (v := .agg #[.int .u64 (E h).hi, .int .u64 (E h).lo, .int .u64 (E h).ord, .int .u8 (E h).kind, .int .i64 (E h).user, .pointer none, .pointer none]) (by simp [results, Try.results42, go_sem, x0, x1, x2, x3, x4, x5, x6]) rfl ⟨rfl, by simpa using l5, row5, ch5⟩
end Go.Proofs.Qxb6613083a
