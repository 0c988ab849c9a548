/-
  WALKS of b1FromEvents, b1SameList, ZZlineState.
-/
import Derived.Test.Qxb6613083aG1
import Derived.Test.Qxb6613083aE3
namespace Go.Proofs.Qxb6613083a
open Go.RowKit Go.BigFrame
attribute [local go_sem ↓] eql29 neq29

set_option maxHeartbeats 1000000 in
theorem fromEvents_any (a : Option Addr) (bb n c : Nat) (E : Nat → Ev) (w : World) (hn : n ≤ 1048576) (hq : 0 < n → a = some ⟨bb, 0, none⟩ ∧ ERow w bb n E) :
    Calls Try.prog 19 #[.slice a n c] w fun r w' => ∃ g, r = .returned (.slice (some ⟨g, 0, none⟩) n n) ∧ w.heap.size ≤ g ∧ QRow w' g n E ∧ Below w.heap.size w w' := by
  have hmk := fun W => make23 n n (Nat.le_refl _) (by omega) W
  go_enter Try.func19, Try.ntmps19
  go_wp2_with fail
  obtain ⟨g, hg⟩ : ∃ g, g = w.heap.size := ⟨_, rfl⟩
  have hrow := madeQ_row w n
  have hb0 : Below w.heap.size w (w.alloc (madeQ n)) := (Below.refl _ _).alloc (Nat.le_refl _) _
  generalize w.alloc (madeQ n) = W1 at *
  rw [← hg] at hrow ⊢
  have hgB : w.heap.size ≤ g := by omega
  have HG : Hid (g = w.heap.size) := hg
  clear hg hmk
  go_loopw [4] (fun i wr => ∃ k : Nat, k ≤ n ∧ i = .int .i64 k ∧ QRow wr g n (fill E k) ∧ Below w.heap.size w wr) (fun i _ => n - (intOf i).toNat)
  case atStart => exact ⟨0, by omega, rfl, hrow.congr (fun i _ => by simp [fill]), hb0⟩
  case round =>
    clear hrow hb0
    obtain ⟨k, hkn, rfl, hrow, hbel⟩ := hrel
    by_cases hk : k < n
    · obtain ⟨rfl, er⟩ := hq (by omega)
      have hbw : bb < w.heap.size := er.lt
      have q1 : EAt wr bb (k * 7) (E k) := (er.at_ k hk).below hbw hbel
      have HR : Hid (QRow wr g n (fill E k)) := hrow
      clear hrow hq er
      obtain ⟨y0, y1, y2, y3, y4, y5, y6⟩ := q1
      go_wp2_with fail
      refine (fromEvent_any (E k) _).mono ?_
      rintro r w1 ⟨rfl, hb1⟩
      clear y0 y1 y2 y3 y4 y5 y6
      have R1 := HR.out.below hb1
      obtain ⟨x0, x1, x2, x3, x4⟩ := R1.at_ k hk
      have f0 := R1.free (k * 5)
      have f1 := R1.free (k * 5 + 1)
      have f2 := R1.free (k * 5 + 2)
      have f3 := R1.free (k * 5 + 3)
      have f4 := R1.free (k * 5 + 4)
      have HR1 : Hid (QRow w1 g n (fill E k)) := R1
      clear R1
      go_wp2
      go_roundw
      case rel =>
        have R2 := (HR1.out.set hk (E k)).congr (E' := fill E (k + 1)) (fun i _ => (fill_upd E k i).symm)
        have B2 : Below w.heap.size w (w1.setCells g (k * 5) (qcells (E k))) := (hbel.trans (hb1.mono hbel.size)).trans ((Ch.setCells (S := fun r _ => r = g) g (qcells (E k)) (k * 5) (Ch.refl _ w1) (fun _ _ _ => rfl)).below (Nat.le_trans hbel.size hb1.size) (fun r _ hr e => by omega))
        exact ⟨k + 1, by omega, by go_num, R2, B2⟩
      case measure => simp [intOf]; omega
    · obtain rfl : k = n := by omega
      go_wp2
      go_ret
      exact ⟨g, rfl, hgB, hrow.congr (fun i hi => by simp [fill, hi]), hbel⟩

set_option maxHeartbeats 1000000 in
theorem sameList_any (a1 : Option Addr) (n c1 : Nat) (E : Nat → Ev) (a2 : Option Addr) (c2 : Nat) (F : Nat → Ev) (w : World) (hn : n ≤ 1048576) (q1 : QSl w w.heap.size a1 n E) (q2 : QSl w w.heap.size a2 n F) (h : ∀ i, i < n → E i = F i) :
    Calls Try.prog 22 #[.slice a1 n c1, .slice a2 n c2] w fun r w' => r = .returned (.bool true) ∧ Below w.heap.size w w' := by
  have HEQ : Hid (∀ i, i < n → E i = F i) := h
  clear h
  go_enter Try.func22, Try.ntmps22
  go_wp2_with fail
  go_loopw [5] (fun i wr => ∃ k : Nat, k ≤ n ∧ i = .int .i64 k ∧ Below w.heap.size w wr) (fun i _ => n - (intOf i).toNat)
  case atStart => exact ⟨0, by omega, rfl, Below.refl _ _⟩
  case round =>
    obtain ⟨k, hkn, rfl, hbel⟩ := hrel
    by_cases hk : k < n
    · obtain ⟨b1, o1, rfl, hb1, h1⟩ := q1 (by omega)
      obtain ⟨b2, o2, rfl, hb2, h2⟩ := q2 (by omega)
      obtain ⟨e, he⟩ : ∃ e, E k = e := ⟨_, rfl⟩
      have e1 : QAt wr b1 (o1 + k * 5) e := by have := (h1 k hk).below hb1 hbel; rwa [he] at this
      have e2 : QAt wr b2 (o2 + k * 5) e := by have := (h2 k hk).below hb2 hbel; rwa [← HEQ.out k hk, he] at this
      have x1 : ∀ x : BW wr, QAt x.v b1 (o1 + k * 5) e := e1.bw
      have x2 : ∀ x : BW wr, QAt x.v b2 (o2 + k * 5) e := e2.bw
      have hss : same e e = true := by simp [same]
      clear h1 h2 e1 e2 he q1 q2
      have hki : (k : Int) < n := by omega
      go_upto_region 6 with fail
      refine wp_region_bw (by kernel_rfl) (by kernel_rfl) ?_
      repeat (go_big_quiet_step (fail))
      refine wpQuiet_nil ?_
      rintro _ ⟨⟨wz, hbz⟩, rfl⟩
      clear x1 x2
      go_wp2
      go_roundw
      case rel => exact ⟨k + 1, by omega, by go_num, hbel.trans (hbz.mono hbel.size)⟩
      case measure => simp [intOf]; omega
    · go_wp2
      go_ret
      exact ⟨rfl, hbel⟩

theorem lineState_any (lb lo : Nat) (a : Option Addr) (n c : Nat) (h : Int) (w : World) (l : LnAt w lb lo (.slice a n c) h) :
    Calls Try.prog 39 #[.pointer (some ⟨lb, lo, none⟩)] w fun r w' => r = .returned (.tuple #[.slice a n c, .int .i64 h]) ∧ Below w.heap.size w w' := by
  have x0 : ∀ x : BW w, x.v.cell? ⟨lb, lo, none⟩ = some (.slice a n c) := cell_bw l.c0
  have x1 : ∀ x : BW w, x.v.cell? ⟨lb, lo + 1, none⟩ = some (.int .i64 h) := cell_bw l.c1
  clear l
  go_enter Try.func39, Try.ntmps39
  go_upto_region 1 with fail
  refine wp_region_bw (by kernel_rfl) (by kernel_rfl) ?_
  repeat (go_big_quiet_step (fail))
  refine wpQuiet_nil ?_
  rintro _ ⟨⟨wz, hbz⟩, rfl⟩
  go_wp2
  exact bodyPost_ret (v := .tuple #[.slice a n c, .int .i64 h]) (by simp [results, Try.results39, go_sem]) rfl ⟨rfl, hbz⟩
end Go.Proofs.Qxb6613083a
