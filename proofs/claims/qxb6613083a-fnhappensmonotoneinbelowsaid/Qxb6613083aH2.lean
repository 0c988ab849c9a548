/-
  WALKS of a chance: happens, ZZhappens.
-/
import Derived.Test.Qxb6613083aH1
import Derived.Deep.RegionWith
namespace Go.Proofs.Qxb6613083a
open Go.RowKit
attribute [local go_sem] run_store_float

/-- does it happen, at the word u? -/
def hpn (p : Nat) (below u : Int) : Bool := isOne p || (isPos p && decide (u < below))

set_option maxHeartbeats 1000000 in
theorem happens_one (b : Nat) (p : Nat) (below s t : Int) (w : World) (hp : isOne p = true) :
    Calls Try.prog 43 #[.agg #[.pointer (some ⟨b, 0, none⟩)], .agg #[.float .f64 p, .int .u64 below]] w fun e w' => e = .returned (.bool (hpn p below (pcgU s t))) ∧ Below w.heap.size w w' := by
  have E : Hid (hpn p below (pcgU s t) = true) := by simp [Hid, hpn, hp]
  unfold isOne at hp
  go_enter Try.func43, Try.ntmps43
  go_wp2_with fail
  go_quiet (fail)
  go_wp2
  go_ret
  exact ⟨by rw [E.out]; rfl, below_drewN (((Below.refl _ _).alloc (Nat.le_refl _) _).alloc (by simp) _) _⟩

set_option maxHeartbeats 1000000 in
theorem happens_no (b : Nat) (p : Nat) (below s t : Int) (w : World) (hp : isOne p = false) (hq : isPos p = false) :
    Calls Try.prog 43 #[.agg #[.pointer (some ⟨b, 0, none⟩)], .agg #[.float .f64 p, .int .u64 below]] w fun e w' => e = .returned (.bool (hpn p below (pcgU s t))) ∧ Below w.heap.size w w' := by
  have E : Hid (hpn p below (pcgU s t) = false) := by simp [Hid, hpn, hp, hq]
  unfold isOne at hp
  unfold isPos at hq
  go_enter Try.func43, Try.ntmps43
  go_wp2_with fail
  go_quiet (fail)
  go_wp2
  go_ret
  exact ⟨by rw [E.out]; rfl, below_drewN (((Below.refl _ _).alloc (Nat.le_refl _) _).alloc (by simp) _) _⟩

set_option maxHeartbeats 1000000 in
theorem happens_draw (b : Nat) (p : Nat) (below s t : Int) (w : World) (B : Nat) (hB : B ≤ b) (hw : b < w.heap.size) (t0 : 0 ≤ t) (hp : isOne p = false) (hq : isPos p = true)
    (c0 : w.cell? ⟨b, 0, none⟩ = some (.int .u64 s)) (c1 : w.cell? ⟨b, 1, none⟩ = some (.int .u64 t)) (f0 : w.frozen? ⟨b, 0, none⟩ = false) (f1 : w.frozen? ⟨b, 1, none⟩ = false) :
    Calls Try.prog 43 #[.agg #[.pointer (some ⟨b, 0, none⟩)], .agg #[.float .f64 p, .int .u64 below]] w fun e w' => e = .returned (.bool (hpn p below (pcgU s t))) ∧ Below B w w' := by
  have E : Hid (hpn p below (pcgU s t) = decide (pcgU s t < below)) := by simp [Hid, hpn, hp, hq]
  unfold isOne at hp
  unfold isPos at hq
  have hw1 : b < w.heap.size + 1 := by omega
  have hw2 : b < w.heap.size + 1 + 1 := by omega
  go_enter Try.func43, Try.ntmps43
  go_wp2_with fail
  go_region_with (go_at_call 47; refine (uint64_any b s t _ t0 ?_ ?_ ?_ ?_).mono ?_ <;> first | (intro e w1; rintro ⟨rfl, n1, hb1⟩; subst hb1) | (go_simp; done))
  all_goals
    go_wp2
    go_ret
    refine ⟨by rw [E.out]; rfl, ?_⟩
    repeat (first | exact Below.refl _ _ | refine Below.setCell ?_ hB _ | refine below_drewN ?_ _ | refine Below.drew ?_ | refine Below.alloc ?_ (by first | omega | (simp; omega)) _)

/-- 'happens', whole: the rng's state s, t in block b; B: a number of a block at or below it. -/
theorem happens_any (b : Nat) (p : Nat) (below s t : Int) (w : World) (B : Nat) (hB : B ≤ b) (hw : b < w.heap.size) (t0 : 0 ≤ t)
    (c0 : w.cell? ⟨b, 0, none⟩ = some (.int .u64 s)) (c1 : w.cell? ⟨b, 1, none⟩ = some (.int .u64 t)) (f0 : w.frozen? ⟨b, 0, none⟩ = false) (f1 : w.frozen? ⟨b, 1, none⟩ = false) :
    Calls Try.prog 43 #[.agg #[.pointer (some ⟨b, 0, none⟩)], .agg #[.float .f64 p, .int .u64 below]] w fun e w' => e = .returned (.bool (hpn p below (pcgU s t))) ∧ Below B w w' := by
  cases hp : isOne p with
  | true => exact (happens_one b p below s t w hp).mono fun e w' h => ⟨h.1, h.2.mono (by omega)⟩
  | false =>
    cases hq : isPos p with
    | true => exact happens_draw b p below s t w B hB hw t0 hp hq c0 c1 f0 f1
    | false => exact (happens_no b p below s t w hp hq).mono fun e w' h => ⟨h.1, h.2.mono (by omega)⟩

set_option maxHeartbeats 400000 in
theorem zzhappens_any (b : Nat) (p : Nat) (below s t : Int) (w : World) (B : Nat) (hB : B ≤ b) (hw : b < w.heap.size) (t0 : 0 ≤ t)
    (c0 : w.cell? ⟨b, 0, none⟩ = some (.int .u64 s)) (c1 : w.cell? ⟨b, 1, none⟩ = some (.int .u64 t)) (f0 : w.frozen? ⟨b, 0, none⟩ = false) (f1 : w.frozen? ⟨b, 1, none⟩ = false) :
    Calls Try.prog 31 #[.agg #[.pointer (some ⟨b, 0, none⟩)], .agg #[.float .f64 p, .int .u64 below]] w fun e w' => e = .returned (.bool (hpn p below (pcgU s t))) ∧ Below B w w' := by
  have bel : Below w.heap.size w ((w.alloc (.cells #[.pointer (some ⟨b, 0, none⟩)] 61)).alloc (.cells #[.float .f64 p, .int .u64 below] 64)) := ((Below.refl _ _).alloc (Nat.le_refl _) _).alloc (by simp) _
  go_enter Try.func31, Try.ntmps31
  go_wp2_with fail
  refine (happens_any b p below s t _ B hB (by simp; omega) t0 ((bel.cell (p := ⟨b, 0, none⟩) hw).trans c0) ((bel.cell (p := ⟨b, 1, none⟩) hw).trans c1) ((bel.frozen (p := ⟨b, 0, none⟩) hw).trans f0) ((bel.frozen (p := ⟨b, 1, none⟩) hw).trans f1)).mono ?_
  rintro e w1 ⟨rfl, hb1⟩
  go_wp2
  go_ret
  exact ⟨rfl, (bel.mono (by omega)).trans hb1⟩

/-! ### the plain law -/
theorem hpn_zero (p : Nat) (u : Int) (h : 0 ≤ u) : hpn p 0 u = isOne p := by
  have : decide (u < 0) = false := decide_eq_false (by omega)
  simp [hpn, this]
theorem hpn_mono (p : Nat) (a b u : Int) (h : a ≤ b) (ha : hpn p a u = true) : hpn p b u = true := by
  simp only [hpn, Bool.or_eq_true, Bool.and_eq_true, decide_eq_true_eq] at ha ⊢
  rcases ha with h1 | ⟨h1, h2⟩
  · exact .inl h1
  · exact .inr ⟨h1, by omega⟩
theorem hpn_cls (p q : Nat) (a u : Int) (h : cls p = cls q) : hpn q a u = hpn p a u := by
  unfold cls at h
  unfold hpn
  revert h
  generalize isOne p = p1
  generalize isOne q = q1
  generalize isPos p = p2
  generalize isPos q = q2
  cases p1 <;> cases q1 <;> cases p2 <;> cases q2 <;> simp
theorem pcgU_bd (h l : Int) : 0 ≤ pcgU h l := (u64w _).1
end Go.Proofs.Qxb6613083a
