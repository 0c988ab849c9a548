/-
  THE WALK of FnHappensMonotoneInBelow.
-/
import Derived.Test.Qxb6613083aH2
namespace Go.Proofs.Qxb6613083a
open Go.RowKit
attribute [local go_sem] run_store_float

/-- One line of the law: a fresh generator, a chance, does it happen? What the third call wants of the world that the first two leave. -/
theorem fresh_line (W : World) (s t : Int) (x : Value) (y : Obj) (B : Nat) (hB : B ≤ W.heap.size) (below : Int) (p : Nat) (t0 : 0 ≤ t) :
    Calls Try.prog 31 #[.agg #[.pointer (some ⟨W.heap.size + 1, 0, none⟩)], .agg #[.float .f64 p, .int .u64 below]] (((W.alloc (.cells #[x] 61)).alloc (.cells #[.int .u64 s, .int .u64 t] 88)).alloc y) fun e w' => e = .returned (.bool (hpn p below (pcgU s t))) ∧ Below B W w' := by
  refine (zzhappens_any (W.heap.size + 1) p below s t (((W.alloc (.cells #[x] 61)).alloc (.cells #[.int .u64 s, .int .u64 t] 88)).alloc y) B (by omega) (by simp) t0 (by go_simp) (by go_simp) (by go_simp) (by go_simp)).mono ?_
  rintro e w1 ⟨rfl, hb⟩
  refine ⟨rfl, Below.trans ?_ hb⟩
  exact (((Below.refl B W).alloc hB _).alloc (by simp; omega) _).alloc (by simp; omega) _

set_option maxHeartbeats 1000000 in
theorem happens_core (s t : Int) (p q : Nat) (b1 b2 lo hi : Int) (z a b c : Bool) (w : World) (t0 : 0 ≤ t) (hl : (b2 < b1 ∧ lo = b2 ∧ hi = b1) ∨ (¬ b2 < b1 ∧ lo = b1 ∧ hi = b2))
    (HZ : Hid (hpn p 0 (pcgU s t) = z)) (HA : Hid (hpn p lo (pcgU s t) = a)) (HB : Hid (hpn p hi (pcgU s t) = b)) (HC : Hid (hpn q lo (pcgU s t) = c))
    (h1 : (FloatKind.f64.format.order p 4607182418800017408 == some Ordering.eq) = z) (hza : z = true → a = true) (hab : a = true → b = true) (hc : cls p = cls q → c = a) :
    Calls Try.prog 7 #[.int .u64 s, .int .u64 t, .float .f64 p, .float .f64 q, .int .u64 b1, .int .u64 b2] w fun e w' => e = .returned (.bool true) ∧ Below w.heap.size w w' := by
  have hcc : ((cls p == cls q) = true ∧ c = a) ∨ (cls p == cls q) = false := by
    cases h : cls p == cls q
    · exact .inr rfl
    · exact .inl ⟨rfl, hc (by simpa using h)⟩
  have hzab : (z = true ∧ a = true ∧ b = true) ∨ (z = false ∧ a = true ∧ b = true) ∨ (z = false ∧ a = false ∧ b = true) ∨ (z = false ∧ a = false ∧ b = false) := by
    cases z <;> cases a <;> cases b <;> simp_all
  clear hza hab hc
  rcases hl with ⟨hlt, rfl, rfl⟩ | ⟨hlt, rfl, rfl⟩
  all_goals
    go_enter Try.func7, Try.ntmps7
    go_wp2_with fail
    refine (newRng_any s t _).mono ?_
    rintro e w1 ⟨x1, rfl, hw1⟩
    subst hw1
    go_wp2_with fail
    refine (newChance_any p _ _).mono ?_
    rintro e w2 ⟨rfl, hw2⟩
    subst hw2
    go_wp2_with fail
    refine (fresh_line w s t _ _ w.heap.size (Nat.le_refl _) _ p t0).mono ?_
    rintro e w3 ⟨rfl, hb3⟩
    rw [HZ.out]
    go_wp2_with fail
    refine (newRng_any s t _).mono ?_
    rintro e w4 ⟨x4, rfl, hw4⟩
    subst hw4
    go_wp2_with fail
    refine (newChance_any p _ _).mono ?_
    rintro e w5 ⟨rfl, hw5⟩
    subst hw5
    go_wp2_with fail
    refine (fresh_line w3 s t _ _ w.heap.size hb3.size _ p t0).mono ?_
    rintro e w6 ⟨rfl, hb6⟩
    rw [HA.out]
    go_wp2_with fail
    refine (newRng_any s t _).mono ?_
    rintro e w7 ⟨x7, rfl, hw7⟩
    subst hw7
    go_wp2_with fail
    refine (newChance_any p _ _).mono ?_
    rintro e w8 ⟨rfl, hw8⟩
    subst hw8
    go_wp2_with fail
    have hb36 := hb3.trans hb6
    refine (fresh_line w6 s t _ _ w.heap.size hb36.size _ p t0).mono ?_
    rintro e w9 ⟨rfl, hb9⟩
    rw [HB.out]
    go_wp2_with fail
    refine (newRng_any s t _).mono ?_
    rintro e w10 ⟨x10, rfl, hw10⟩
    subst hw10
    go_wp2_with fail
    refine (newChance_any q _ _).mono ?_
    rintro e w11 ⟨rfl, hw11⟩
    subst hw11
    go_wp2_with fail
    have hb39 := hb36.trans hb9
    refine (fresh_line w9 s t _ _ w.heap.size hb39.size _ q t0).mono ?_
    rintro e w12 ⟨rfl, hb12⟩
    rw [HC.out]
    have hbl := hb39.trans hb12
    clear hb3 hb6 hb9 hb12 hb36 hb39
    rcases hzab with ⟨rfl, rfl, rfl⟩ | ⟨rfl, rfl, rfl⟩ | ⟨rfl, rfl, rfl⟩ | ⟨rfl, rfl, rfl⟩
    all_goals
      rcases hcc with ⟨hcl, rfl⟩ | hcl
      all_goals
        go_wp2_with (first | (go_at_call_of 34 (Value.float FloatKind.f64 p); refine (class_any p _).mono ?_; rintro e v1 ⟨rfl, hv⟩; have hv' := hv.symm; subst hv') | (go_at_call_of 34 (Value.float FloatKind.f64 q); refine (class_any q _).mono ?_; rintro e v2 ⟨rfl, hv⟩; have hv' := hv.symm; subst hv'))
        go_ret
        exact ⟨rfl, hbl⟩

/-- THE WALK, WHOLE. -/
theorem happensLaw_any (s t : Int) (p q : Nat) (b1 b2 : Int) (w : World) (t0 : 0 ≤ t) :
    Calls Try.prog 7 #[.int .u64 s, .int .u64 t, .float .f64 p, .float .f64 q, .int .u64 b1, .int .u64 b2] w fun e w' => e = .returned (.bool true) ∧ Below w.heap.size w w' := by
  have hu := pcgU_bd s t
  by_cases hlt : b2 < b1
  · exact happens_core s t p q b1 b2 b2 b1 _ _ _ _ w t0 (.inl ⟨hlt, rfl, rfl⟩) (show Hid (hpn p 0 (pcgU s t) = isOne p) from hpn_zero p _ hu) rfl rfl rfl rfl
      (fun h => by simp [hpn, h]) (fun h => hpn_mono p b2 b1 _ (by omega) h) (fun h => hpn_cls p q b2 _ h)
  · exact happens_core s t p q b1 b2 b1 b2 _ _ _ _ w t0 (.inr ⟨hlt, rfl, rfl⟩) (show Hid (hpn p 0 (pcgU s t) = isOne p) from hpn_zero p _ hu) rfl rfl rfl rfl
      (fun h => by simp [hpn, h]) (fun h => hpn_mono p b1 b2 _ (by omega) h) (fun h => hpn_cls p q b1 _ h)
end Go.Proofs.Qxb6613083a
