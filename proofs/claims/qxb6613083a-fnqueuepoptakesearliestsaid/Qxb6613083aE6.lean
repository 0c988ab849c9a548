/-
  WALK of line.pop where the events are moved to the front.
-/
import Derived.Test.Qxb6613083aE5
import Derived.Test.Qxb6613083aM2
namespace Go.Proofs.Qxb6613083a
open Go.RowKit

theorem zero_one (k : Nat) : ∀ v ∈ (Builtin.zeroCells (Value.agg zeroV).cells k).toList, v.oneCell' = true := by
  intro v hv
  have hz : ∀ i, i < 7 → (zeroV[i]!).oneCell' = true := by decide
  simp only [Builtin.zeroCells, Array.toList_map, List.mem_map] at hv
  obtain ⟨i, _, rfl⟩ := hv
  exact hz (i % 7) (Nat.mod_lt _ (by omega))

set_option maxRecDepth 100000 in
set_option maxHeartbeats 2000000 in
theorem pop_shift (lb lo b n c h : Nat) (E : Nat → Ev) (w : World) (hn : n ≤ 1048576) (hh : h < n) (hnc : n ≤ c) (hc : c ≤ 1048576) (hB : n / 2 < h + 1) (l : LnAt w lb lo (.slice (some ⟨b, 0, none⟩) n c) h) (row : ERow w b n E) (hne : b ≠ lb) :
    Calls Try.prog 42 #[.pointer (some ⟨lb, lo, none⟩)] w fun r w' => r = .returned (.agg #[.int .u64 (E h).hi, .int .u64 (E h).lo, .int .u64 (E h).ord, .int .u8 (E h).kind, .int .i64 (E h).user, .pointer none, .pointer none]) ∧ LnAt w' lb lo (.slice (some ⟨b, 0, none⟩) (n - (h + 1)) c) 0 ∧ ERow w' b (n - (h + 1)) (fun i => E (h + 1 + i)) ∧ Ch (popS lb lo b) w w' := by
  obtain ⟨r0, hr0⟩ : ∃ r0, w.heap.size = r0 := ⟨_, rfl⟩
  have hi : (h : Int) < n := by omega
  go_enter Try.func42, Try.ntmps42
  go_upto_region 1 with fail
  -- the result's block
  have hbel : Below w.heap.size w (w.alloc (.cells #[.int .u64 ev0.hi, .int .u64 ev0.lo, .int .u64 ev0.ord, .int .u8 ev0.kind, .int .i64 ev0.user, .pointer none, .pointer none] 41)) := (Below.refl _ _).alloc (Nat.le_refl _) _
  have one0 : One (w.alloc (.cells #[.int .u64 ev0.hi, .int .u64 ev0.lo, .int .u64 ev0.ord, .int .u8 ev0.kind, .int .i64 ev0.user, .pointer none, .pointer none] 41)) r0 ev0 := by rw [← hr0]; exact One.new w ev0
  have hs0 : (w.alloc (.cells #[.int .u64 ev0.hi, .int .u64 ev0.lo, .int .u64 ev0.ord, .int .u8 ev0.kind, .int .i64 ev0.user, .pointer none, .pointer none] 41)).heap.size = r0 + 1 := by simp [hr0]
  have l0 := l.below hbel
  have row0 := row.below hbel
  have hlw := l.lt
  have hbw := row.lt
  have hch : Ch (popS lb lo b) w (w.alloc (.cells #[.int .u64 ev0.hi, .int .u64 ev0.lo, .int .u64 ev0.ord, .int .u8 ev0.kind, .int .i64 ev0.user, .pointer none, .pointer none] 41)) := Ch.ofBelow hbel
  change Code.wp _ _ _ _ (w.alloc (.cells #[.int .u64 ev0.hi, .int .u64 ev0.lo, .int .u64 ev0.ord, .int .u8 ev0.kind, .int .i64 ev0.user, .pointer none, .pointer none] 41))
  generalize w.alloc (.cells #[.int .u64 ev0.hi, .int .u64 ev0.lo, .int .u64 ev0.ord, .int .u8 ev0.kind, .int .i64 ev0.user, .pointer none, .pointer none] 41) = W0 at *
  clear hbel l row
  have HR : Hid (ERow W0 b n E) := row0
  have HL : Hid (LnAt W0 lb lo (.slice (some ⟨b, 0, none⟩) n c) h) := l0
  have HO : Hid (One W0 r0 ev0) := one0
  have HC : Hid (Ch (popS lb lo b) w W0) := hch
  have e1 := row0.at_ h hh
  obtain ⟨c0, c1, f0, f1⟩ := l0
  clear row0 one0 hch
  go_cut [3] (fun s wx => s = .pointer (some ⟨r0 + 1, 0, none⟩) ∧ One wx (r0 + 1) (E h) ∧ Below W0.heap.size W0 wx)
  case first =>
    have s0 : PS W0 lb lo b n c h (E h) := ⟨c0, c1, e1⟩
    have s1 : PS W0.drew lb lo b n c h (E h) := s0
    have s2 : ∀ ob, PS (W0.alloc ob).drew lb lo b n c h (E h) := fun ob => s0.below (((Below.refl _ W0).alloc (Nat.le_refl _) ob).drew)
    go_region_held3 (fun w' => PS w' lb lo b n c h (E h)) (first | with_reducible exact s1 | with_reducible exact s2 _) (fail)
    go_wp2
    go_meet
    refine ⟨rfl, ?_, ((Below.refl _ W0).alloc (Nat.le_refl _) _).drew⟩
    rw [← hs0]
    exact (One.new W0 (E h)).ch (S := fun _ _ => False) (Ch.ofBelow (Below.refl _ _).drew) (fun _ h => h)
  case rest =>
    obtain ⟨rfl, oneE, hb1⟩ := hcut
    have row1 := HR.out.below hb1
    have l1 := HL.out.below hb1
    have oneZ := HO.out.below hb1
    have ch1 := HC.out.trans (Ch.ofBelow hb1)
    clear HR HL HO HC e1 c0 c1 f0 f1 hb1
    go_upto_region 2 with fail
    obtain ⟨g10, g11, g12, g13, g14, g15, g16⟩ := row1.at_ h hh
    obtain ⟨q10, q11, q12, q13, q14, q15, q16⟩ := row1.fr (h * 7)
    obtain ⟨c0, c1, f0, f1⟩ := l1
    have HR : Hid (ERow wc b n E) := row1
    have HL : Hid (LnAt wc lb lo (.slice (some ⟨b, 0, none⟩) n c) h) := ⟨c0, c1, f0, f1⟩
    have HZ : Hid (One wc r0 ev0) := oneZ
    have HE : Hid (One wc (r0 + 1) (E h)) := oneE
    have HC : Hid (Ch (popS lb lo b) w wc) := ch1
    clear row1 oneZ oneE ch1
    have hch2 : Ch (popS lb lo b) wc (wc.setCells b (h * 7) (ecells ev0)) := Ch.setCells b _ _ (Ch.refl _ _) (fun _ _ _ => .inl rfl)
    have l2 : LnAt (wc.setCells b (h * 7) (ecells ev0)) lb lo (.slice (some ⟨b, 0, none⟩) n c) h := HL.out.ch (Ch.setCells (S := fun r _ => r = b) b _ _ (Ch.refl _ _) (fun _ _ _ => rfl)) (fun e => hne e.symm) (fun e => hne e.symm)
    go_cut [] (fun wx => LnAt wx lb lo (.slice (some ⟨b, 0, none⟩) n c) h ∧ ERow wx b n (upd E h ev0) ∧ One wx r0 ev0 ∧ One wx (r0 + 1) (E h) ∧ Ch (popS lb lo b) w wx)
    case first =>
      have s1 : wc.drew.cell? ⟨lb, lo, none⟩ = some (.slice (some ⟨b, 0, none⟩) n c) ∧ wc.drew.cell? ⟨lb, lo + 1, none⟩ = some (.int .i64 h) := ⟨c0, c1⟩
      have s2 : (wc.setCells b (h * 7) (ecells ev0)).drew.cell? ⟨lb, lo, none⟩ = some (.slice (some ⟨b, 0, none⟩) n c) ∧ (wc.setCells b (h * 7) (ecells ev0)).drew.cell? ⟨lb, lo + 1, none⟩ = some (.int .i64 h) := ⟨(l2.below (Below.refl _ _).drew).c0, (l2.below (Below.refl _ _).drew).c1⟩
      simp only [World.setCells, ecells, ev0, Nat.add_assoc, Nat.reduceAdd] at s2
      go_region_held3 (fun w' => w'.cell? ⟨lb, lo, none⟩ = some (.slice (some ⟨b, 0, none⟩) n c) ∧ w'.cell? ⟨lb, lo + 1, none⟩ = some (.int .i64 h)) (first | with_reducible exact s1 | with_reducible exact s2) (fail)
      go_wp2
      go_meet
      have hdr : ∀ W : World, Below W.heap.size W W.drew := fun W => (Below.refl _ W).drew
      have hneZ : ∀ o, ¬ (fun r (_ : Nat) => r = b) r0 o := fun _ e => by have : r0 = b := e; omega
      have hneE : ∀ o, ¬ (fun r (_ : Nat) => r = b) (r0 + 1) o := fun _ e => by have : r0 + 1 = b := e; omega
      have hcb : Ch (fun r _ => r = b) wc (wc.setCells b (h * 7) (ecells ev0)) := Ch.setCells b _ _ (Ch.refl _ _) (fun _ _ _ => rfl)
      exact ⟨l2.below (hdr _), (HR.out.set hh ev0).below (hdr _), (HZ.out.ch hcb hneZ).below (hdr _), (HE.out.ch hcb hneE).below (hdr _), (HC.out.trans hch2).drew⟩
    case rest =>
      obtain ⟨l3, row3, oneZ, oneE, ch3⟩ := hcut
      clear HR HL HZ HE HC hch2 l2 c0 c1 f0 f1 g10 g11 g12 g13 g14 g15 g16 q10 q11 q12 q13 q14 q15 q16
      obtain ⟨c0, c1, f0, f1⟩ := l3
      go_upto_region 4 with fail
      have l4 : LnAt (wc.setCell ⟨lb, lo + 1, none⟩ (.int .i64 ((h : Int) + 1))) lb lo (.slice (some ⟨b, 0, none⟩) n c) ((h : Int) + 1) := LnAt.setHead ⟨c0, c1, f0, f1⟩ _
      have hc4 : Ch (fun r o => r = lb ∧ o = lo + 1) wc (wc.setCell ⟨lb, lo + 1, none⟩ (.int .i64 ((h : Int) + 1))) := (Ch.refl _ wc).setCell _ _ _ (fun _ => ⟨rfl, rfl⟩)
      have row4 := row3.ch hc4 (fun _ e => hne e.1)
      have oneZ4 := oneZ.ch hc4 (fun _ e => by have : r0 = lb := e.1; omega)
      have oneE4 := oneE.ch hc4 (fun _ e => by have : r0 + 1 = lb := e.1; omega)
      have ch4 := ch3.trans (hc4.mono (T := popS lb lo b) (fun r o _ e => .inr ⟨e.1, .inr e.2⟩))
      generalize wc.setCell ⟨lb, lo + 1, none⟩ (.int .i64 ((h : Int) + 1)) = W4 at *
      clear c0 c1 f0 f1 hc4 row3 oneZ oneE ch3
      obtain ⟨c0, c1, f0, f1⟩ := l4
      have HR : Hid (ERow W4 b n (upd E h ev0)) := row4
      have HL : Hid (LnAt W4 lb lo (.slice (some ⟨b, 0, none⟩) n c) ((h : Int) + 1)) := ⟨c0, c1, f0, f1⟩
      have HC : Hid (Ch (popS lb lo b) w W4) := ch4
      have HZ : Hid (One W4 r0 ev0) := oneZ4
      have HE : Hid (One W4 (r0 + 1) (E h)) := oneE4
      clear row4 ch4
      have hq2 : IntKind.i64.wrap ((n : Int).tdiv 2) = ((n / 2 : Nat) : Int) := by rw [IntKind.wrap_i64, Int.tdiv_eq_ediv_of_nonneg (by omega)]; omega
      have hd : decide (((n / 2 : Nat) : Int) < (h : Int) + 1) = true := decide_eq_true (by omega)
      go_quiet (fail)
      go_upto_region 5 with fail
      have hb5 : Below W4.heap.size W4 (W4.drewN nq) := below_drewN (Below.refl _ _) nq
      have row5 := HR.out.below hb5
      have l5 := HL.out.below hb5
      have oneZ5 := HZ.out.below hb5
      have oneE5 := HE.out.below hb5
      have ch5 := HC.out.drewN nq
      clear HR HL HZ HE HC hb5 c0 c1 f0 f1
      generalize W4.drewN nq = W5 at *
      obtain ⟨c0, c1, f0, f1⟩ := l5
      have HR : Hid (ERow W5 b n (upd E h ev0)) := row5
      have HL : Hid (LnAt W5 lb lo (.slice (some ⟨b, 0, none⟩) n c) ((h : Int) + 1)) := ⟨c0, c1, f0, f1⟩
      have HC : Hid (Ch (popS lb lo b) w W5) := ch5
      have HZ : Hid (One W5 r0 ev0) := oneZ5
      have HE : Hid (One W5 (r0 + 1) (E h)) := oneE5
      clear row5 ch5 oneZ5 oneE5 oneZ4 oneE4 hd hq2
      -- the copy
      obtain ⟨m, HM⟩ : ∃ m, Hid (n - (h + 1) = m) := ⟨_, rfl⟩
      obtain ⟨A, hA⟩ : ∃ A, (if c = h + 1 then some (⟨b, 0, none⟩ : Addr) else some ⟨b, (h + 1) * 7, none⟩) = A := ⟨_, rfl⟩
      have HA : Hid (0 < m → A = some ⟨b, (h + 1) * 7, none⟩) := fun h0 => by rw [← hA, if_neg (by have := HM.out; omega)]
      obtain ⟨cs, HCS⟩ : ∃ cs, Hid (flat ecells m (fun i => E (h + 1 + i)) = cs) := ⟨_, rfl⟩
      have hcl : cs.length = m * 7 := by rw [← HCS.out]; exact flat_len ecells 7 ecells_len _ m
      have hone : ∀ v ∈ cs, v.oneCell' = true := by rw [← HCS.out]; exact flat_one ecells ecells_one m _
      have hrange : W5.rangeAt b ((h + 1) * 7) cs := by
        rw [← HCS.out]
        refine flat_cells W5 b _ ecells 7 ecells_len (by omega) _ m (fun i hi => ?_)
        have := (HR.out.at_ (h + 1 + i) (by have := HM.out; omega)).range
        rw [upd_ne _ _ _ (by omega)] at this
        rwa [show (h + 1) * 7 + i * 7 = (h + 1 + i) * 7 by omega]
      have hthere : ∀ j, j < n * 7 → (W5.cell? ⟨b, j, none⟩).isSome = true := fun j hj => by
        have := (HR.out.there (k := j / 7) (by omega) (j % 7) (by omega)).1
        rwa [show j / 7 * 7 + j % 7 = j by omega] at this
      obtain ⟨i41, hi41, hz0, hz1, hz2⟩ := info_parts info41
      have hmin : Nat.min m n = m := Nat.min_eq_left (by have := HM.out; omega)
      have hmn : n - (h + 1) = m := HM.out
      have hu1 : (0 : Int) ≤ (h : Int) + 1 := by omega
      have hu2 : (h : Int) + 1 ≤ (n : Int) := by omega
      have hSrc : Hid (0 < cs.length → ∃ a, A = some a ∧ ∀ j v, cs[j]? = some v → W5.drew.cell? (a.add j) = some v) := fun h0 => ⟨_, HA.out (by omega), fun j v hv => by rw [Addr.add_mid]; exact hrange j v hv⟩
      have hDst : Hid (∀ j, j < cs.length → (W5.drew.cell? ⟨b, 0 + j, none⟩).isSome = true) := fun j hj => by rw [Nat.zero_add]; exact hthere j (by have := HM.out; omega)
      have hFr : Hid (∀ j, j < cs.length → W5.drew.frozen? ⟨b, 0 + j, none⟩ = false) := fun j _ => HR.out.free _
      have HT : Hid (∀ j, j < n * 7 → (W5.cell? ⟨b, j, none⟩).isSome = true) := hthere
      have HRG : Hid (W5.rangeAt b ((h + 1) * 7) cs) := hrange
      have HON : Hid (∀ v ∈ cs, v.oneCell' = true) := hone
      have HCL : Hid (cs.length = m * 7) := hcl
      have HMI : Hid (Nat.min m n = m) := hmin
      have HU : Hid (i41.size = 7) := hz1
      clear hthere hrange hone hcl hmin hz0 hz1 hz2
      have s1 : W5.drew.cell? ⟨lb, lo, none⟩ = some (.slice (some ⟨b, 0, none⟩) n c) ∧ W5.drew.cell? ⟨lb, lo + 1, none⟩ = some (.int .i64 ((h : Int) + 1)) := ⟨c0, c1⟩
      have hcb : Ch (fun r _ => r = b) W5.drew (W5.drew.setCells b 0 cs) := Ch.setCells b cs 0 (Ch.refl _ _) (fun _ _ _ => rfl)
      have hcb5 : Ch (fun r _ => r = b) W5 (W5.drew.setCells b 0 cs) := Ch.setCells b cs 0 (Ch.refl _ W5).drew (fun _ _ _ => rfl)
      have l6 : LnAt (W5.drew.setCells b 0 cs) lb lo (.slice (some ⟨b, 0, none⟩) n c) ((h : Int) + 1) := HL.out.ch hcb5 (fun e => hne e.symm) (fun e => hne e.symm)
      have s2 : (W5.drew.setCells b 0 cs).cell? ⟨lb, lo, none⟩ = some (.slice (some ⟨b, 0, none⟩) n c) ∧ (W5.drew.setCells b 0 cs).cell? ⟨lb, lo + 1, none⟩ = some (.int .i64 ((h : Int) + 1)) := ⟨l6.c0, l6.c1⟩
      have HL6 : Hid (LnAt (W5.drew.setCells b 0 cs) lb lo (.slice (some ⟨b, 0, none⟩) n c) ((h : Int) + 1)) := l6
      clear l6
      go_region_held3 (fun w' => w'.cell? ⟨lb, lo, none⟩ = some (.slice (some ⟨b, 0, none⟩) n c) ∧ w'.cell? ⟨lb, lo + 1, none⟩ = some (.int .i64 ((h : Int) + 1))) (first | with_reducible exact s1 | with_reducible exact s2) (refine step_copy_size rfl (.tmp 46) (.tmp 55) 32 32 (by rfl) 41 i41 b 0 n c A m (c - (h + 1)) cs (by rfl) (by rfl) Try.underlying32 hi41 m 7 HMI.out HU.out HCL.out hSrc.out hDst.out hFr.out HON.out ?_)
      go_upto_region 6 with fail
      have hr6 : (W5.drew.setCells b 0 cs).rangeAt b 0 cs := World.rangeAt_setCells_same _ b 0 cs (fun j hj => ⟨hDst.out j hj, hFr.out j hj⟩)
      have hth6 : ∀ j, j < n * 7 → ((W5.drew.setCells b 0 cs).cell? ⟨b, j, none⟩).isSome = true := fun j hj => World.isSome_setCells b cs 0 _ _ (HT.out j hj)
      have hfr6 : ∀ o, (W5.drew.setCells b 0 cs).frozen? ⟨b, o, none⟩ = false := fun o => (hcb5.frozen b o HR.out.lt).trans (HR.out.free o)
      have hlt6 : b < (W5.drew.setCells b 0 cs).heap.size := Nat.lt_of_lt_of_le HR.out.lt hcb5.size
      have oneZ6 := HZ.out.ch hcb5 (fun _ e => by have : r0 = b := e; omega)
      have oneE6 := HE.out.ch hcb5 (fun _ e => by have : r0 + 1 = b := e; omega)
      have ch6 := HC.out.trans (hcb5.mono (T := popS lb lo b) (fun _ _ _ e => .inl e))
      have l6 := HL6.out
      clear HL6 s1 s2 hcb hcb5 HL HR HC HZ HE HT HRG hSrc hDst hFr c0 c1 f0 f1
      generalize W5.drew.setCells b 0 cs = W6 at *
      obtain ⟨c0, c1, f0, f1⟩ := l6
      have HL : Hid (LnAt W6 lb lo (.slice (some ⟨b, 0, none⟩) n c) ((h : Int) + 1)) := ⟨c0, c1, f0, f1⟩
      have HG : Hid (W6.rangeAt b 0 cs) := hr6
      have HT : Hid (∀ j, j < n * 7 → (W6.cell? ⟨b, j, none⟩).isSome = true) := hth6
      have HF : Hid (∀ o, W6.frozen? ⟨b, o, none⟩ = false) := hfr6
      have HZ : Hid (One W6 r0 ev0) := oneZ6
      have HE : Hid (One W6 (r0 + 1) (E h)) := oneE6
      have HC : Hid (Ch (popS lb lo b) w W6) := ch6
      clear hr6 hth6 hfr6 oneZ6 oneE6 ch6 hA HA
      -- the clear
      have hmn' : m < n := by have := HM.out; omega
      clear hmn
      have hcm : ¬ c = m := by omega
      have hv1 : (0 : Int) ≤ (m : Int) := by omega
      have hv2 : (m : Int) ≤ (n : Int) := by omega
      obtain ⟨j41, hj41, hy0, hy1, hy2⟩ := info_parts info41
      have hzs : (Value.agg zeroV).cells.size = 7 := rfl
      have hk1 : Hid (∀ j, j < (n - m) * (Value.agg zeroV).cells.size → (W6.cell? ⟨b, m * 7 + j, none⟩).isSome = true) := fun j hj => HT.out _ (by rw [hzs] at hj; omega)
      have hk2 : Hid (∀ j, j < (n - m) * (Value.agg zeroV).cells.size → W6.frozen? ⟨b, m * 7 + j, none⟩ = false) := fun j _ => HF.out _
      have hk3 : Hid (∀ v ∈ (Builtin.zeroCells (Value.agg zeroV).cells (n - m)).toList, v.oneCell' = true) := zero_one _
      have HJ : Hid (j41.zero = some (.agg zeroV)) := hy0
      clear hzs hy0 hy1 hy2
      obtain ⟨zs, HZS⟩ : ∃ zs, Hid ((Builtin.zeroCells (Value.agg zeroV).cells (n - m)).toList = zs) := ⟨_, rfl⟩
      have hcb7 : Ch (fun r _ => r = b) W6 (W6.setCells b (m * 7) zs) := Ch.setCells b zs (m * 7) (Ch.refl _ W6) (fun _ _ _ => rfl)
      have l7 : LnAt (W6.setCells b (m * 7) zs) lb lo (.slice (some ⟨b, 0, none⟩) n c) ((h : Int) + 1) := HL.out.ch hcb7 (fun e => hne e.symm) (fun e => hne e.symm)
      have oneZ7 : One (W6.setCells b (m * 7) zs) r0 ev0 := HZ.out.ch hcb7 (fun _ e => by have : r0 = b := e; omega)
      have oneE7 : One (W6.setCells b (m * 7) zs) (r0 + 1) (E h) := HE.out.ch hcb7 (fun _ e => by have : r0 + 1 = b := e; omega)
      have row7 : ERow (W6.setCells b (m * 7) zs) b m (fun i => E (h + 1 + i)) := by
        refine ⟨Nat.lt_of_lt_of_le hlt6 hcb7.size, fun i hi => ?_, fun o => (hcb7.frozen b o hlt6).trans (HF.out o)⟩
        have e1 := cells_flat W6 b 0 ecells 7 ecells_len (fun i => E (h + 1 + i)) m (by rw [HCS.out]; exact HG.out) i hi
        rw [Nat.zero_add] at e1
        exact (EAt.of_range e1).set_ne b (m * 7) zs (.inr (.inl (by omega)))
      have HR7 : Hid (ERow (W6.setCells b (m * 7) zs) b m (fun i => E (h + 1 + i))) := row7
      have HC7 : Hid (Ch (popS lb lo b) w (W6.setCells b (m * 7) zs)) := HC.out.trans (hcb7.mono (T := popS lb lo b) (fun _ _ _ e => .inl e))
      have HL7 : Hid (LnAt (W6.setCells b (m * 7) zs) lb lo (.slice (some ⟨b, 0, none⟩) n c) ((h : Int) + 1)) := l7
      have HZ7 : Hid (One (W6.setCells b (m * 7) zs) r0 ev0) := oneZ7
      have HE7 : Hid (One (W6.setCells b (m * 7) zs) (r0 + 1) (E h)) := oneE7
      have hmc : (m : Int) ≤ (c : Int) := by omega
      clear row7 hcb7 HL HG HT HF HZ HE HC
      obtain ⟨c70, c71, f70, f71⟩ := l7
      obtain ⟨z0, z1, z2, z3, z4, z5, z6⟩ := oneZ7.at_
      obtain ⟨y0, y1, y2, y3, y4, y5, y6⟩ := oneZ7.free
      obtain ⟨e0, e1, e2, e3, e4, e5, e6⟩ := oneE7.at_
      clear oneZ7 oneE7
      go_wp2_with ((with_reducible show wpList _ _ _ ({ dst := _, op := Op.call { callee := Callee.builtin Builtin.clear, args := _, argTypes := _ }, type := _, pos := _, after := _, guard := _ } :: _) _ _); refine wpList_clear_size rfl (.tmp 62) 32 (by rfl) 41 j41 (.agg zeroV) b (m * 7) (n - m) (c - m) (by rfl) Try.underlying32 hj41 HJ.out hk1.out hk2.out hk3.out zs HZS.out ?_)
      have hc8 : Ch (fun r o => r = lb ∧ (o = lo ∨ o = lo + 1)) (W6.setCells b (m * 7) zs) (((W6.setCells b (m * 7) zs).setCell ⟨lb, lo, none⟩ (.slice (some ⟨b, 0, none⟩) m c)).setCell ⟨lb, lo + 1, none⟩ (.int .i64 0)) :=
        ((Ch.refl _ _).setCell _ _ _ (fun _ => ⟨rfl, .inl rfl⟩)).setCell _ _ _ (fun _ => ⟨rfl, .inr rfl⟩)
      have l8 := (HL7.out.setSl (.slice (some ⟨b, 0, none⟩) m c)).setHead 0
      have row8 := HR7.out.ch hc8 (fun _ e => hne e.1)
      have oneZ8 := HZ7.out.ch hc8 (fun _ e => by have : r0 = lb := e.1; omega)
      have ch8 := HC7.out.trans (hc8.mono (T := popS lb lo b) (fun _ _ _ e => .inr e))
      clear c70 c71 f70 f71 z0 z1 z2 z3 z4 z5 z6 y0 y1 y2 y3 y4 y5 y6 e0 e1 e2 e3 e4 e5 e6 hc8
      change bodyPost _ _ _ _ _ ((((W6.setCells b (m * 7) zs).setCell ⟨lb, lo, none⟩ (.slice (some ⟨b, 0, none⟩) m c)).setCell ⟨lb, lo + 1, none⟩ (.int .i64 0)).setCells r0 0 (ecells (E h)))
      generalize ((W6.setCells b (m * 7) zs).setCell ⟨lb, lo, none⟩ (.slice (some ⟨b, 0, none⟩) m c)).setCell ⟨lb, lo + 1, none⟩ (.int .i64 0) = W8 at *
      have oneF := oneZ8.set (E h)
      have hc9 : Ch (fun r _ => r = r0) W8 (W8.setCells r0 0 (ecells (E h))) := Ch.setCells r0 _ _ (Ch.refl _ W8) (fun _ _ _ => rfl)
      have l9 := l8.ch hc9 (fun e => by have : lb = r0 := e; omega) (fun e => by have : lb = r0 := e; omega)
      have row9 := row8.ch hc9 (fun _ e => by have : b = r0 := e; omega)
      have ch9 : Ch (popS lb lo b) w (W8.setCells r0 0 (ecells (E h))) := Ch.setCells r0 _ _ ch8 (fun _ _ e => by omega)
      generalize W8.setCells r0 0 (ecells (E h)) = W9 at *
      obtain ⟨x0, x1, x2, x3, x4, x5, x6⟩ := oneF.at_
      exact bodyPost_ret (v := .agg #[.int .u64 (E h).hi, .int .u64 (E h).lo, .int .u64 (E h).ord, .int .u8 (E h).kind, .int .i64 (E h).user, .pointer none, .pointer none]) (by simp [results, Try.results42, go_sem, x0, x1, x2, x3, x4, x5, x6]) rfl ⟨rfl, by rw [HM.out]; exact l9, by rw [HM.out]; exact row9, ch9⟩
end Go.Proofs.Qxb6613083a
