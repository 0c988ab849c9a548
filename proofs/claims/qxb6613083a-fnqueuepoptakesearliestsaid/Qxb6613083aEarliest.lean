/-
  THE ROW of FnQueuePopTakesEarliest: from the walk to the statement.
-/
import Derived.Test.Qxb6613083aRows
import Derived.Test.Qxb6613083aL3
import Derived.Test.Qxb6613083aO2
namespace Go.Proofs.Qxb6613083a
open Go.ChangeShapes Go.WideShapes Go.ChangeAt Go.RowKit

theorem Try.own : ownKnob Try.prog.godebug = none := by kernel_rfl
theorem Try.laidOut : laidOutB Try.prog = true := by kernel_rfl

set_option maxRecDepth 100000 in
theorem earliest_lifted (os : Os) (started : os.Started) (H : Type) (enc : TypeId × Value → H) :
    ReturnsInHanded {} Try.checked os 3 .any (Rows.fnQueuePopTakesEarliestSpec.pre6 enc Try.prog Try.f3 Rows.fnQueuePopTakesEarliestRow.domain false) (Rows.fnQueuePopTakesEarliestSpec.post enc Try.prog Try.f3 false true false false) := by
  refine returnsInHanded_of_change (C := Try.checked) Try.own started (by kernel_rfl) Try.func3
    (ChangeSpec.witness6 (enc := enc) (C := Try.checked) false ⟨#[], #[.int .u64 0, .slice none 0 0, .int .i64 0, .slice none 0 0, .int .i64 0, .slice none 0 0], []⟩ 8 (by kernel_rfl) (by kernel_rfl) (by kernel_rfl) (by kernel_rfl)) ?_
  intro W base args ds gs before hval0 hW hcnd _
  have hval : ∀ (j : Nat) t v, Try.f3.params[j]? = some t → args[j]? = some v → Value.okWide Try.prog W .any base t v := hval0
  have hW' := hW
  obtain ⟨p, q, hA0, hV, rfl, hfz, hnd⟩ := hW
  have hA : DataW.TrodAll enc Try.prog W 0 (fun _ => true) true Try.f3.params.toList args.toList ds p := hA0
  rw [Try.params3] at hA hval
  obtain ⟨v0, vs0, d0, ds0, p0, q0, hargs, rfl, rfl, h0, r0⟩ := trodAll_cons hA
  obtain ⟨v1, vs1, d1, ds1, p1, q1, rfl, rfl, rfl, h1, r1⟩ := trodAll_cons r0
  obtain ⟨v2, vs2, d2, ds2, p2, q2, rfl, rfl, rfl, h2, r2⟩ := trodAll_cons r1
  obtain ⟨v3, vs3, d3, ds3, p3, q3, rfl, rfl, rfl, h3, r3⟩ := trodAll_cons r2
  obtain ⟨v4, vs4, d4, ds4, p4, q4, rfl, rfl, rfl, h4, r4⟩ := trodAll_cons r3
  obtain ⟨v5, vs5, d5, ds5, p5, q5, rfl, rfl, rfl, h5, r5⟩ := trodAll_cons r4
  obtain ⟨rfl, rfl, rfl⟩ := trodAll_nil r5
  obtain rfl : args = #[v0, v1, v2, v3, v4, v5] := by cases args; simp_all
  obtain ⟨rfl, rfl⟩ := trodVars_none hV
  obtain ⟨dl, rfl, rfl, rfl, w0⟩ := open_int Try.underlying22 (hval 0 22 v0 rfl rfl) h0
  obtain ⟨a0, n0, c0, rfl⟩ := okWide_slice Try.underlying23 (hval 1 23 v1 rfl rfl)
  obtain ⟨hd0, rfl, rfl, rfl, w2⟩ := open_int Try.underlying3 (hval 2 3 v2 rfl rfl) h2
  obtain ⟨a1, n1, c1, rfl⟩ := okWide_slice Try.underlying23 (hval 3 23 v3 rfl rfl)
  obtain ⟨hd1, rfl, rfl, rfl, w4⟩ := open_int Try.underlying3 (hval 4 3 v4 rfl rfl) h4
  obtain ⟨a2, n2, c2, rfl⟩ := okWide_slice Try.underlying23 (hval 5 23 v5 rfl rfl)
  have g1 := h1
  have g3 := h3
  have g5 := h5
  obtain ⟨u1, f1⟩ := h1
  obtain ⟨u3, f3⟩ := h3
  obtain ⟨u5, f5⟩ := h5
  obtain ⟨m0, z0, k0, E0, e0⟩ := open_qevs2 (by simpa [Value.cells] using f1)
  obtain ⟨m1, z1, k1, E1, e1⟩ := open_qevs2 (by simpa [Value.cells] using f3)
  obtain ⟨m2, z2, k2, E2, e2⟩ := open_qevs2 (by simpa [Value.cells] using f5)
  have l1 : ∀ x ∈ p1, x.block < W.heap.size := fun x hx => by simpa using hW'.lt x (by simp [hx])
  have l3 : ∀ x ∈ p3, x.block < W.heap.size := fun x hx => by simpa using hW'.lt x (by simp [hx])
  have l5 : ∀ x ∈ p5, x.block < W.heap.size := fun x hx => by simpa using hW'.lt x (by simp [hx])
  clear hA0 hval0
  refine (earliest_any dl a0 n0 c0 hd0 E0 a1 n1 c1 hd1 E1 a2 n2 c2 E2 W m0 m1 m2 e0 e1 e2 z0 z1 z2 k0 k1).mono fun e W' ⟨he, hb⟩ => ?_
  subst he
  refine ⟨_, rfl, _, _, _, [], [] ++ (p1 ++ ([] ++ (p3 ++ ([] ++ p5)))), [], hW', ?_, ?_, rfl, hb.frame _, fun h => by cases h⟩
  · exact trodAll_mk1 (shut_bool Try.underlying4 true)
  · have t1 := Below.trod Try.laidOut (by kernel_rfl) (of_decide_eq_true (by kernel_rfl)) g1 hb l1
    have t3 := Below.trod Try.laidOut (by kernel_rfl) (of_decide_eq_true (by kernel_rfl)) g3 hb l3
    have t5 := Below.trod Try.laidOut (by kernel_rfl) (of_decide_eq_true (by kernel_rfl)) g5 hb l5
    exact trodAll_cons_mk (shut_int Try.underlying22 w0) (trodAll_cons_mk t1 (trodAll_cons_mk (shut_int Try.underlying3 w2) (trodAll_cons_mk t3 (trodAll_cons_mk (shut_int Try.underlying3 w4) (trodAll_mk1 t5)))))

/-- THE STATEMENT. -/
theorem earliest_holds : Rows.FnQueuePopTakesEarliestSaid :=
  OpenClaim.holds_of_wide 3 Try.f3 rfl rfl rfl rfl rfl rfl rfl ⟨rfl, rfl, rfl, rfl, rfl⟩ rfl rfl rfl rfl rfl (by kernel_rfl) Try.func3 (by kernel_rfl)
    (of_decide_eq_true (by kernel_rfl)) (by unfold Func.isWrapper; rw [if_neg (of_decide_eq_false (by kernel_rfl))]; exact ⟨rfl, rfl⟩)
    (fun os started H enc _ => earliest_lifted os started H enc)
end Go.Proofs.Qxb6613083a
