/-
  WALK of timed.pop.
-/
import Derived.Test.Qxb6613083aF1
import Derived.Test.Qxb6613083aP1
import Derived.Test.Qxb6613083aE5
import Derived.Deep.LoopGhost
namespace Go.Proofs.Qxb6613083a
open Go.RowKit Go.BigFrame

/-- what timed.pop may write -/
def tpS (qb qo tb : Nat) : Nat → Nat → Prop := fun r o => r = tb ∨ (r = qb ∧ o = qo)
/-- the heap's own variable -/
structure TmAt (w : World) (qb qo : Nat) (v : Value) : Prop where
  c0 : w.cell? ⟨qb, qo, none⟩ = some v
  f0 : w.frozen? ⟨qb, qo, none⟩ = false
theorem TmAt.lt {w : World} {qb qo : Nat} {v : Value} (h : TmAt w qb qo v) : qb < w.heap.size := World.block_lt_of_cell? w _ h.c0
theorem TmAt.ch {S : Nat → Nat → Prop} {w w' : World} {qb qo : Nat} {v : Value} (h : TmAt w qb qo v) (hc : Ch S w w') (h0 : ¬ S qb qo) : TmAt w' qb qo v :=
  ⟨(hc.cell _ _ h.lt h0).trans h.c0, (hc.frozen _ _ h.lt).trans h.f0⟩
theorem TmAt.below {w w' : World} {qb qo : Nat} {v : Value} (h : TmAt w qb qo v) (hb : Below w.heap.size w w') : TmAt w' qb qo v := h.ch (S := fun _ _ => False) (Ch.ofBelow hb) id
theorem TmAt.set {w : World} {qb qo : Nat} {v : Value} (h : TmAt w qb qo v) (v' : Value) : TmAt (w.setCell ⟨qb, qo, none⟩ v') qb qo v' := by
  have hc : Ch (fun _ _ => True) w (w.setCell ⟨qb, qo, none⟩ v') := (Ch.refl _ w).setCell _ _ _ (fun _ => trivial)
  exact ⟨cell_set_same h.c0, (hc.frozen _ _ h.lt).trans h.f0⟩

theorem idx91_0 (x y : Value) (W : World) : (Instr.index 91 (.agg #[x, y]) (.int .i64 0)).run Try.prog W = .ok x W := by kernel_rfl
theorem idx91_1 (x y : Value) (W : World) : (Instr.index 91 (.agg #[x, y]) (.int .i64 1)).run Try.prog W = .ok y W := by kernel_rfl
attribute [local go_sem] idx91_0 idx91_1

set_option maxHeartbeats 2000000 in
set_option maxRecDepth 100000 in
theorem timedPop_any (qb qo tb n m c : Nat) (T : Nat → Ev) (w : World) (hnm : n = m + 1) (hn : n ≤ 1048576) (hnc : n ≤ c) (hp : HeapP T n) (hv : TmAt w qb qo (.slice (some ⟨tb, 0, none⟩) n c)) (row : ERow w tb n T) (hne : tb ≠ qb) :
    Calls Try.prog 46 #[.pointer (some ⟨qb, qo, none⟩)] w fun r w' => ∃ T', r = .returned (.agg #[.int .u64 (T 0).hi, .int .u64 (T 0).lo, .int .u64 (T 0).ord, .int .u8 (T 0).kind, .int .i64 (T 0).user, .pointer none, .pointer none]) ∧ TmAt w' qb qo (.slice (some ⟨tb, 0, none⟩) m c) ∧ ERow w' tb m T' ∧ HeapP T' m ∧ (seg T' 0 m).Perm (seg T 1 m) ∧ Ch (tpS qb qo tb) w w' := by
  obtain ⟨r0, hr0⟩ : ∃ r0, w.heap.size = r0 := ⟨_, rfl⟩
  have HM : Hid (n = m + 1) := hnm
  have hi0 : (0 : Int) < n := by omega
  have him : (m : Int) < n := by omega
  have hsub : IntKind.i64.wrap ((n : Int) - 1) = (m : Int) := by rw [IntKind.wrap_i64]; omega
  clear hnm
  go_enter Try.func46, Try.ntmps46
  go_upto_region 1 with fail
  have hbel : Below w.heap.size w (w.alloc (.cells #[.int .u64 ev0.hi, .int .u64 ev0.lo, .int .u64 ev0.ord, .int .u8 ev0.kind, .int .i64 ev0.user, .pointer none, .pointer none] 41)) := (Below.refl _ _).alloc (Nat.le_refl _) _
  have one0 : One (w.alloc (.cells #[.int .u64 ev0.hi, .int .u64 ev0.lo, .int .u64 ev0.ord, .int .u8 ev0.kind, .int .i64 ev0.user, .pointer none, .pointer none] 41)) r0 ev0 := by rw [← hr0]; exact One.new w ev0
  have hs0 : (w.alloc (.cells #[.int .u64 ev0.hi, .int .u64 ev0.lo, .int .u64 ev0.ord, .int .u8 ev0.kind, .int .i64 ev0.user, .pointer none, .pointer none] 41)).heap.size = r0 + 1 := by simp [hr0]
  have v0 := hv.below hbel
  have row0 := row.below hbel
  have hqw := hv.lt
  have htw := row.lt
  have hch : Ch (tpS qb qo tb) w (w.alloc (.cells #[.int .u64 ev0.hi, .int .u64 ev0.lo, .int .u64 ev0.ord, .int .u8 ev0.kind, .int .i64 ev0.user, .pointer none, .pointer none] 41)) := Ch.ofBelow hbel
  change Code.wp _ _ _ _ (w.alloc (.cells #[.int .u64 ev0.hi, .int .u64 ev0.lo, .int .u64 ev0.ord, .int .u8 ev0.kind, .int .i64 ev0.user, .pointer none, .pointer none] 41))
  generalize w.alloc (.cells #[.int .u64 ev0.hi, .int .u64 ev0.lo, .int .u64 ev0.ord, .int .u8 ev0.kind, .int .i64 ev0.user, .pointer none, .pointer none] 41) = W0 at *
  clear hbel hv row
  obtain ⟨c0, f0⟩ := v0
  have e0 : EAt W0 tb 0 (T 0) := by have := row0.at_ 0 (by have := HM.out; omega); rwa [Nat.zero_mul] at this
  go_upto_region 4 with fail
  have hb1 : Below W0.heap.size W0 (W0.alloc (.cells #[.int .u64 ((T 0)).hi, .int .u64 ((T 0)).lo, .int .u64 ((T 0)).ord, .int .u8 ((T 0)).kind, .int .i64 ((T 0)).user, .pointer none, .pointer none] 41)) := (Below.refl _ _).alloc (Nat.le_refl _) _
  have oneE : One (W0.alloc (.cells #[.int .u64 ((T 0)).hi, .int .u64 ((T 0)).lo, .int .u64 ((T 0)).ord, .int .u8 ((T 0)).kind, .int .i64 ((T 0)).user, .pointer none, .pointer none] 41)) (r0 + 1) (T 0) := by rw [← hs0]; exact One.new W0 (T 0)
  have oneZ := one0.below hb1
  have row1 := row0.below hb1
  have hch1 := hch.trans (Ch.ofBelow hb1)
  have v1 : TmAt (W0.alloc (.cells #[.int .u64 ((T 0)).hi, .int .u64 ((T 0)).lo, .int .u64 ((T 0)).ord, .int .u8 ((T 0)).kind, .int .i64 ((T 0)).user, .pointer none, .pointer none] 41)) qb qo (.slice (some ⟨tb, 0, none⟩) n c) := TmAt.below ⟨c0, f0⟩ hb1
  change Code.wp _ _ _ _ (W0.alloc (.cells #[.int .u64 ((T 0)).hi, .int .u64 ((T 0)).lo, .int .u64 ((T 0)).ord, .int .u8 ((T 0)).kind, .int .i64 ((T 0)).user, .pointer none, .pointer none] 41))
  generalize W0.alloc (.cells #[.int .u64 ((T 0)).hi, .int .u64 ((T 0)).lo, .int .u64 ((T 0)).ord, .int .u8 ((T 0)).kind, .int .i64 ((T 0)).user, .pointer none, .pointer none] 41) = W1 at *
  clear hb1 one0 row0 hch c0 f0 e0 hs0
  clear W0
  have em : EAt W1 tb (m * 7) (T m) := row1.at_ m (by have := HM.out; omega)
  have e0 : EAt W1 tb 0 (T 0) := by have := row1.at_ 0 (by have := HM.out; omega); rwa [Nat.zero_mul] at this
  obtain ⟨q10, q11, q12, q13, q14, q15, q16⟩ := row1.fr 0
  have HR : Hid (ERow W1 tb n T) := row1
  have HV : Hid (TmAt W1 qb qo (.slice (some ⟨tb, 0, none⟩) n c)) := v1
  have HZ : Hid (One W1 r0 ev0) := oneZ
  have HE : Hid (One W1 (r0 + 1) (T 0)) := oneE
  have HC : Hid (Ch (tpS qb qo tb) w W1) := hch1
  clear row1 v1 oneZ oneE hch1
  go_upto_region 5 with fail
  change Code.wp _ _ _ _ (W1.setCells tb 0 (ecells (T m)))
  have hcA : Ch (fun r _ => r = tb) W1 (W1.setCells tb 0 (ecells (T m))) := Ch.setCells tb _ _ (Ch.refl _ _) (fun _ _ _ => rfl)
  have rowA : ERow (W1.setCells tb 0 (ecells (T m))) tb n (upd T 0 (T m)) := by have := HR.out.set (k := 0) (by have := HM.out; omega) (T m); rwa [Nat.zero_mul] at this
  have vA := HV.out.ch hcA (fun e => hne e.symm)
  have oneZ := HZ.out.ch hcA (fun _ e => by have : r0 = tb := e; omega)
  have oneE := HE.out.ch hcA (fun _ e => by have : r0 + 1 = tb := e; omega)
  have chA := HC.out.trans (hcA.mono (T := tpS qb qo tb) (fun r o _ e => .inl e))
  generalize W1.setCells tb 0 (ecells (T m)) = W2 at *
  clear em e0 q10 q11 q12 q13 q14 q15 q16 HR HV HZ HE HC hcA
  clear W1
  obtain ⟨g10, g11, g12, g13, g14, g15, g16⟩ := rowA.at_ m (by have := HM.out; omega)
  obtain ⟨q10, q11, q12, q13, q14, q15, q16⟩ := rowA.fr (m * 7)
  have HR : Hid (ERow W2 tb n (upd T 0 (T m))) := rowA
  have HV : Hid (TmAt W2 qb qo (.slice (some ⟨tb, 0, none⟩) n c)) := vA
  have HZ : Hid (One W2 r0 ev0) := oneZ
  have HE : Hid (One W2 (r0 + 1) (T 0)) := oneE
  have HC : Hid (Ch (tpS qb qo tb) w W2) := chA
  clear rowA vA oneZ oneE chA
  go_upto_region 6 with fail
  change Code.wp _ _ _ _ (W2.setCells tb (m * 7) (ecells ev0))
  have hcA : Ch (fun r _ => r = tb) W2 (W2.setCells tb (m * 7) (ecells ev0)) := Ch.setCells tb _ _ (Ch.refl _ _) (fun _ _ _ => rfl)
  have rowA : ERow (W2.setCells tb (m * 7) (ecells ev0)) tb n (tk T m) := HR.out.set (k := m) (by have := HM.out; omega) ev0
  have vA := HV.out.ch hcA (fun e => hne e.symm)
  have oneZ := HZ.out.ch hcA (fun _ e => by have : r0 = tb := e; omega)
  have oneE := HE.out.ch hcA (fun _ e => by have : r0 + 1 = tb := e; omega)
  have chA := HC.out.trans (hcA.mono (T := tpS qb qo tb) (fun r o _ e => .inl e))
  generalize W2.setCells tb (m * 7) (ecells ev0) = W3 at *
  clear g10 g11 g12 g13 g14 g15 g16 q10 q11 q12 q13 q14 q15 q16 HR HV HZ HE HC hcA
  clear W2
  have hmc : m ≤ c := by have := HM.out; omega
  have him2 : (m : Int) ≤ c := by omega
  have HV : Hid (TmAt W3 qb qo (.slice (some ⟨tb, 0, none⟩) n c)) := vA
  obtain ⟨c0, f0⟩ := vA
  go_upto_region 8 with fail
  have hcB : Ch (fun r o => r = qb ∧ o = qo) W3 (W3.setCell ⟨qb, qo, none⟩ (.slice (some ⟨tb, 0, none⟩) m c)) := (Ch.refl _ W3).setCell _ _ _ (fun _ => ⟨rfl, rfl⟩)
  have vB : TmAt (W3.setCell ⟨qb, qo, none⟩ (.slice (some ⟨tb, 0, none⟩) m c)) qb qo (.slice (some ⟨tb, 0, none⟩) m c) := HV.out.set _
  have rowB : ERow (W3.setCell ⟨qb, qo, none⟩ (.slice (some ⟨tb, 0, none⟩) m c)) tb m (tk T m) := (rowA.ch hcB (fun _ e => hne e.1)).less (by have := HM.out; omega)
  have oneZB := oneZ.ch hcB (fun _ e => by have : r0 = qb := e.1; omega)
  have oneEB := oneE.ch hcB (fun _ e => by have : r0 + 1 = qb := e.1; omega)
  have chB := chA.trans (hcB.mono (T := tpS qb qo tb) (fun r o _ e => .inr e))
  generalize W3.setCell ⟨qb, qo, none⟩ (.slice (some ⟨tb, 0, none⟩) m c) = W4 at *
  clear hcB HV c0 f0 rowA oneZ oneE chA
  clear W3
  have hp0 : HeapBut (tk T m) m 0 := by have h := hp; rw [HM.out] at h; exact tk_heap h
  have hq0 := tk_perm T m
  have hm20 : m ≤ 1048576 := by have := HM.out; omega
  clear hp him hsub hi0 him2
  go_wp2_with fail
  go_loopw [6] (fun i wr => ∃ k : Nat, ∃ T' : Nat → Ev, (k = 0 ∨ k < m) ∧ i = .int .i64 k ∧ HeapBut T' m k ∧ (seg T' 0 m).Perm (seg T 1 m) ∧ TmAt wr qb qo (.slice (some ⟨tb, 0, none⟩) m c) ∧ ERow wr tb m T' ∧ One wr r0 ev0 ∧ One wr (r0 + 1) (T 0) ∧ Ch (tpS qb qo tb) w wr) (fun i _ => m - (intOf i).toNat)
  case atStart => exact ⟨0, tk T m, .inl rfl, rfl, hp0, hq0, vB, rowB, oneZB, oneEB, chB⟩
  case round =>
    clear vB rowB oneZB oneEB chB hp0 hq0
    obtain ⟨k, T', hk, rfl, hbut, hperm, hv, row, oneZ, oneE, hch⟩ := hrel
    have hkb : k ≤ 1048576 := by omega
    obtain ⟨d, HD⟩ : ∃ d : Nat, Hid (2 * k = d) := ⟨_, rfl⟩
    obtain ⟨p1, HP1⟩ : ∃ p : Nat, Hid (2 * k + 1 = p) := ⟨_, rfl⟩
    obtain ⟨p2, HP2⟩ : ∃ p : Nat, Hid (2 * k + 2 = p) := ⟨_, rfl⟩
    have hx1 : IntKind.i64.wrap (2 * (k : Int)) = (d : Int) := by have := HD.out; rw [IntKind.wrap_i64]; omega
    have hx2 : IntKind.i64.wrap ((d : Int) + 1) = (p1 : Int) := by have := HD.out; have := HP1.out; rw [IntKind.wrap_i64]; omega
    have hx3 : IntKind.i64.wrap ((d : Int) + 2) = (p2 : Int) := by have := HD.out; have := HP2.out; rw [IntKind.wrap_i64]; omega
    go_wp2_with fail
    clear hx1 hx2 hx3
    obtain ⟨WR, hWR⟩ : ∃ WR, Hid (wr = WR) := ⟨_, rfl⟩
    have hbel : Below WR.heap.size WR wr := by rw [hWR.out]; exact Below.refl _ _
    rw [hWR.out] at row oneZ oneE hch hv
    have hpk0 : pk T' m k 0 = k := rfl
    go_loopw [7, 43] (fun f i wx => ∃ j : Nat, j ≤ 2 ∧ i = .int .i64 j ∧ f = .int .i64 (pk T' m k j : Nat) ∧ Below WR.heap.size WR wx) (fun _ i _ => 2 - (intOf i).toNat)
    case atStart => exact ⟨0, by omega, rfl, rfl, hbel⟩
    case round =>
      clear hbel hWR
      obtain ⟨j, hj, rfl, rfl, hbel⟩ := hrel
      obtain ⟨f, HF⟩ : ∃ f : Nat, Hid (pk T' m k j = f) := ⟨_, rfl⟩
      rw [HF.out]
      have hrowW : ERow wr tb m T' := row.below hbel
      by_cases hj0 : j = 0
      · subst hj0
        have pkf0 : f = k := HF.out.symm
        have pkf : Hid (f = k) := pkf0
        have pkT : p1 < m → bef (T' p1) (T' f) = true → pk T' m k 1 = p1 := fun h1 h2 => by
          subst pkf0; have e := HP1.out; subst e; show pk1 T' m f = _; unfold pk1; rw [if_pos ⟨h1, h2⟩]
        have pkF : (p1 < m → bef (T' p1) (T' f) = false) → pk T' m k 1 = f := fun h => by
          subst pkf0; have e := HP1.out; subst e; show pk1 T' m f = _; unfold pk1; rw [if_neg (fun hh => by rw [h hh.1] at hh; exact absurd hh.2 (by decide))]
        clear pkf0
        -- child p1
        by_cases hpm : p1 < m
        · have hpi : (p1 : Int) < m := by omega
          have hpi2 : decide ((p1 : Int) < m) = true := decide_eq_true hpi
          have hfm : f < m := by have := HF.out; have := HP1.out; have := pkf.out; omega
          have hfi : (f : Int) < m := by omega
          have eP : ∀ x : BW wr, EAt x.v tb (p1 * 7) (T' p1) := (hrowW.at_ p1 hpm).bw
          have eF : ∀ x : BW wr, EAt x.v tb (f * 7) (T' f) := (hrowW.at_ f hfm).bw
          cases hb : bef (T' p1) (T' f) with
          | true =>
            have hnew : Hid (pk T' m k 1 = p1) := by rw [Hid]; exact pkT hpm hb
            have C1 : Hid (∀ x : BW wr, Calls Try.prog 45 #[.pointer (some ⟨tb, p1 * 7, none⟩), .pointer (some ⟨tb, f * 7, none⟩)] x.v fun e w'' => e = .returned (.bool true) ∧ ∃ y : BW wr, w'' = y.v) := fun x => bw_of (by have h := evBefore_any tb (p1 * 7) tb (f * 7) (T' p1) (T' f) x.v (eP x) (eF x); rw [hb] at h; exact h)
            clear eP eF
            go_upto_region 13 with fail
            refine wp_region_bw (by kernel_rfl) (by kernel_rfl) ?_
            repeat (go_big_quiet_step (exact C1.out _))
            refine wpQuiet_nil ?_
            rintro _ ⟨⟨w1, hb1⟩, rfl⟩
            have hbel1 := hbel.trans (hb1.mono hbel.size)
            clear C1 hb1 hbel hrowW
            go_wp2
            go_roundw
            case rel => exact ⟨1, by omega, by go_num, by rw [hnew.out], hbel1⟩
            case measure => simp [intOf]
          | false =>
            have hnew : Hid (pk T' m k 1 = f) := by rw [Hid]; exact pkF (fun _ => hb)
            have C1 : Hid (∀ x : BW wr, Calls Try.prog 45 #[.pointer (some ⟨tb, p1 * 7, none⟩), .pointer (some ⟨tb, f * 7, none⟩)] x.v fun e w'' => e = .returned (.bool false) ∧ ∃ y : BW wr, w'' = y.v) := fun x => bw_of (by have h := evBefore_any tb (p1 * 7) tb (f * 7) (T' p1) (T' f) x.v (eP x) (eF x); rw [hb] at h; exact h)
            clear eP eF
            go_upto_region 13 with fail
            refine wp_region_bw (by kernel_rfl) (by kernel_rfl) ?_
            repeat (go_big_quiet_step (exact C1.out _))
            refine wpQuiet_nil ?_
            rintro _ ⟨⟨w1, hb1⟩, rfl⟩
            have hbel1 := hbel.trans (hb1.mono hbel.size)
            clear C1 hb1 hbel hrowW
            go_wp2
            go_roundw
            case rel => exact ⟨1, by omega, by go_num, by rw [hnew.out], hbel1⟩
            case measure => simp [intOf]
        · have hpi2 : decide ((p1 : Int) < m) = false := decide_eq_false (by omega)
          have hnew : Hid (pk T' m k 1 = f) := by rw [Hid]; exact pkF (fun h => absurd h hpm)
          go_upto_region 13 with fail
          refine wp_region_bw (by kernel_rfl) (by kernel_rfl) ?_
          repeat (go_big_quiet_step (fail))
          refine wpQuiet_nil ?_
          rintro _ ⟨⟨w1, hb1⟩, rfl⟩
          have hbel1 := hbel.trans (hb1.mono hbel.size)
          clear hb1 hbel hrowW
          go_wp2
          go_roundw
          case rel => exact ⟨1, by omega, by go_num, by rw [hnew.out], hbel1⟩
          case measure => simp [intOf]
      · by_cases hj1 : j = 1
        · subst hj1
          have pkf : Hid (f = k ∨ (f = 2 * k + 1 ∧ 2 * k + 1 < m)) := by
            rw [Hid]
            have e := HF.out
            have e' : pk1 T' m k = f := e
            rcases pk1_cases T' m k with ⟨h1, _⟩ | ⟨h1, h2, _⟩
            · exact .inl (by rw [← e', h1])
            · exact .inr ⟨by rw [← e', h1], h2⟩
          have hf1 : pk1 T' m k = f := HF.out
          have pkT : p2 < m → bef (T' p2) (T' f) = true → pk T' m k 2 = p2 := fun h1 h2 => by
            have e := HP2.out; subst e; show pk2 T' m k = _; unfold pk2; rw [hf1, if_pos ⟨h1, h2⟩]
          have pkF : (p2 < m → bef (T' p2) (T' f) = false) → pk T' m k 2 = f := fun h => by
            have e := HP2.out; subst e; show pk2 T' m k = _; unfold pk2; rw [hf1, if_neg (fun hh => by rw [h hh.1] at hh; exact absurd hh.2 (by decide))]
          clear hf1
          -- child p2
          by_cases hpm : p2 < m
          · have hpi : (p2 : Int) < m := by omega
            have hpi2 : decide ((p2 : Int) < m) = true := decide_eq_true hpi
            have hfm : f < m := by have := HF.out; have := HP2.out; have := pkf.out; omega
            have hfi : (f : Int) < m := by omega
            have eP : ∀ x : BW wr, EAt x.v tb (p2 * 7) (T' p2) := (hrowW.at_ p2 hpm).bw
            have eF : ∀ x : BW wr, EAt x.v tb (f * 7) (T' f) := (hrowW.at_ f hfm).bw
            cases hb : bef (T' p2) (T' f) with
            | true =>
              have hnew : Hid (pk T' m k 2 = p2) := by rw [Hid]; exact pkT hpm hb
              have C1 : Hid (∀ x : BW wr, Calls Try.prog 45 #[.pointer (some ⟨tb, p2 * 7, none⟩), .pointer (some ⟨tb, f * 7, none⟩)] x.v fun e w'' => e = .returned (.bool true) ∧ ∃ y : BW wr, w'' = y.v) := fun x => bw_of (by have h := evBefore_any tb (p2 * 7) tb (f * 7) (T' p2) (T' f) x.v (eP x) (eF x); rw [hb] at h; exact h)
              clear eP eF
              go_upto_region 13 with fail
              refine wp_region_bw (by kernel_rfl) (by kernel_rfl) ?_
              repeat (go_big_quiet_step (exact C1.out _))
              refine wpQuiet_nil ?_
              rintro _ ⟨⟨w1, hb1⟩, rfl⟩
              have hbel1 := hbel.trans (hb1.mono hbel.size)
              clear C1 hb1 hbel hrowW
              go_wp2
              go_roundw
              case rel => exact ⟨2, by omega, by go_num, by rw [hnew.out], hbel1⟩
              case measure => simp [intOf]
            | false =>
              have hnew : Hid (pk T' m k 2 = f) := by rw [Hid]; exact pkF (fun _ => hb)
              have C1 : Hid (∀ x : BW wr, Calls Try.prog 45 #[.pointer (some ⟨tb, p2 * 7, none⟩), .pointer (some ⟨tb, f * 7, none⟩)] x.v fun e w'' => e = .returned (.bool false) ∧ ∃ y : BW wr, w'' = y.v) := fun x => bw_of (by have h := evBefore_any tb (p2 * 7) tb (f * 7) (T' p2) (T' f) x.v (eP x) (eF x); rw [hb] at h; exact h)
              clear eP eF
              go_upto_region 13 with fail
              refine wp_region_bw (by kernel_rfl) (by kernel_rfl) ?_
              repeat (go_big_quiet_step (exact C1.out _))
              refine wpQuiet_nil ?_
              rintro _ ⟨⟨w1, hb1⟩, rfl⟩
              have hbel1 := hbel.trans (hb1.mono hbel.size)
              clear C1 hb1 hbel hrowW
              go_wp2
              go_roundw
              case rel => exact ⟨2, by omega, by go_num, by rw [hnew.out], hbel1⟩
              case measure => simp [intOf]
          · have hpi2 : decide ((p2 : Int) < m) = false := decide_eq_false (by omega)
            have hnew : Hid (pk T' m k 2 = f) := by rw [Hid]; exact pkF (fun h => absurd h hpm)
            go_upto_region 13 with fail
            refine wp_region_bw (by kernel_rfl) (by kernel_rfl) ?_
            repeat (go_big_quiet_step (fail))
            refine wpQuiet_nil ?_
            rintro _ ⟨⟨w1, hb1⟩, rfl⟩
            have hbel1 := hbel.trans (hb1.mono hbel.size)
            clear hb1 hbel hrowW
            go_wp2
            go_roundw
            case rel => exact ⟨2, by omega, by go_num, by rw [hnew.out], hbel1⟩
            case measure => simp [intOf]
        · obtain rfl : j = 2 := by omega
          have hf2 : pk2 T' m k = f := HF.out
          have oneZ1 := oneZ.below hbel
          have oneE1 := oneE.below hbel
          have hv1 := hv.below hbel
          have hch1 := hch.trans (Ch.ofBelow hbel)
          have hsz1 := hbel.size
          clear oneZ oneE hv hch row hbel HF hpk0
          by_cases hfk : f = k
          · have HQ : Hid (HeapP T' m) := heap_stay hbut (by rw [hf2, hfk])
            have hfk' : ((f : Int) == (k : Int)) = true := by simp [hfk]
            have HZ : Hid (One wr r0 ev0) := oneZ1
            have HV : Hid (TmAt wr qb qo (.slice (some ⟨tb, 0, none⟩) m c)) := hv1
            have HR : Hid (ERow wr tb m T') := hrowW
            have HC : Hid (Ch (tpS qb qo tb) w wr) := hch1
            have HPE : Hid ((seg T' 0 m).Perm (seg T 1 m)) := hperm
            obtain ⟨z0, z1, z2, z3, z4, z5, z6⟩ := oneZ1.at_
            obtain ⟨y0, y1, y2, y3, y4, y5, y6⟩ := oneZ1.free
            obtain ⟨e0, e1, e2, e3, e4, e5, e6⟩ := oneE1.at_
            clear oneZ1 oneE1 hv1 hrowW hch1 hperm hbut hf2 hfk
            go_wp2
            clear z0 z1 z2 z3 z4 z5 z6 y0 y1 y2 y3 y4 y5 y6 e0 e1 e2 e3 e4 e5 e6
            change bodyPost _ _ _ _ _ (wr.setCells r0 0 (ecells (T 0)))
            have oneF := HZ.out.set (T 0)
            have hc9 : Ch (fun r _ => r = r0) wr (wr.setCells r0 0 (ecells (T 0))) := Ch.setCells r0 _ _ (Ch.refl _ wr) (fun _ _ _ => rfl)
            have v9 := HV.out.ch hc9 (fun e => by have : qb = r0 := e; omega)
            have row9 := HR.out.ch hc9 (fun _ e => by have : tb = r0 := e; omega)
            have ch9 : Ch (tpS qb qo tb) w (wr.setCells r0 0 (ecells (T 0))) := Ch.setCells r0 _ _ HC.out (fun _ _ e => by omega)
            generalize wr.setCells r0 0 (ecells (T 0)) = W9 at *
            obtain ⟨x0, x1, x2, x3, x4, x5, x6⟩ := oneF.at_
            exact bodyPost_ret (v := .agg #[.int .u64 ((T 0)).hi, .int .u64 ((T 0)).lo, .int .u64 ((T 0)).ord, .int .u8 ((T 0)).kind, .int .i64 ((T 0)).user, .pointer none, .pointer none]) (by simp [results, Try.results46, go_sem, x0, x1, x2, x3, x4, x5, x6]) rfl ⟨T', rfl, v9, row9, HQ.out, HPE.out, ch9⟩
          · have hg := heap_go hbut (by rw [hf2]; exact hfk)
            rw [hf2] at hg
            obtain ⟨hkf, hfm, hbut2⟩ := hg
            have hfk' : ((f : Int) == (k : Int)) = false := by simp; omega
            have hfi : (f : Int) < m := by omega
            have hki : (k : Int) < m := by omega
            have HV : Hid (TmAt wr qb qo (.slice (some ⟨tb, 0, none⟩) m c)) := hv1
            have HR : Hid (ERow wr tb m T') := hrowW
            have HC : Hid (Ch (tpS qb qo tb) w wr) := hch1
            have HPE : Hid ((seg T' 0 m).Perm (seg T 1 m)) := hperm
            have HZ : Hid (One wr r0 ev0) := oneZ1
            have HE : Hid (One wr (r0 + 1) (T 0)) := oneE1
            have HB : Hid (HeapBut (swp T' k f) m f) := hbut2
            have HKF : Hid (k < f ∧ f < m) := ⟨hkf, hfm⟩
            have sS : EAt wr.drew tb (k * 7) (T' k) ∧ EAt wr.drew tb (f * 7) (T' f) := ⟨hrowW.at_ k (by omega), hrowW.at_ f hfm⟩
            obtain ⟨k0, k1, k2, k3, k4, k5, k6⟩ := hrowW.fr (k * 7)
            obtain ⟨j0, j1, j2, j3, j4, j5, j6⟩ := hrowW.fr (f * 7)
            obtain ⟨l0, l1, l2, l3, l4, l5, l6⟩ := hrowW.at_ k (by omega)
            obtain ⟨m0, m1, m2, m3, m4, m5, m6⟩ := hrowW.at_ f hfm
            clear oneZ1 oneE1 hv1 hrowW hch1 hperm hbut hf2 hbut2
            go_upto_region 18 with fail
            clear sS
            have hne7 : ¬ f * 7 = k * 7 := by omega
            go_cut [] from 64 to 77 (fun wx => ERow wx tb m (swp T' k f) ∧ Ch (fun r _ => r = tb) wr wx)
            case first =>
              go_region
              go_wp2
              go_meet
              have hA : Ch (fun r _ => r = tb) wr ((wr.setCells tb (k * 7) (ecells (T' f))).setCells tb (f * 7) (ecells (T' k))) := Ch.setCells tb _ _ (Ch.setCells tb _ _ (Ch.refl _ wr) (fun _ _ _ => rfl)) (fun _ _ _ => rfl)
              have hrr : ERow ((wr.setCells tb (k * 7) (ecells (T' f))).setCells tb (f * 7) (ecells (T' k))) tb m (swp T' k f) := (HR.out.set (by omega) (T' f)).set hfm (T' k)
              exact ⟨hrr.below (Below.refl _ _).drew, hA.drew⟩
            case rest =>
              clear k0 k1 k2 k3 k4 k5 k6 j0 j1 j2 j3 j4 j5 j6 l0 l1 l2 l3 l4 l5 l6 m0 m1 m2 m3 m4 m5 m6
              obtain ⟨rowC, chC⟩ := hcut
              have vC := HV.out.ch chC (fun e => hne e.symm)
              have oneZC := HZ.out.ch chC (fun _ e => by have : r0 = tb := e; omega)
              have oneEC := HE.out.ch chC (fun _ e => by have : r0 + 1 = tb := e; omega)
              have ch2 := HC.out.trans (chC.mono (T := tpS qb qo tb) (fun r o _ e => .inl e))
              clear HV HR HC HZ HE chC hkf hfm hfk hfk'
              go_wp2
              go_roundw
              case rel => exact ⟨f, swp T' k f, .inr HKF.out.2, rfl, HB.out, (swp_perm T' HKF.out.1 HKF.out.2).trans HPE.out, vC, rowC, oneZC, oneEC, ch2⟩
              case measure => have := HKF.out; simp [intOf]; omega
end Go.Proofs.Qxb6613083a
