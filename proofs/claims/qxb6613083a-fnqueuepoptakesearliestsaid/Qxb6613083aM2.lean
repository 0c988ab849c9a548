/-
  MEMORY (3): rows as flat lists of cells; the builtins copy and clear on rows of structs.
-/
import Derived.Test.Qxb6613083aM1
namespace Go.Proofs.Qxb6613083a
open Go.RowKit

/-! ### copy, for elements of whatever size: all is read before anything is written -/
section
variable {P : Program}
theorem run_copy_size (w : World) (dT sT ty elem : TypeId) (i : TypeInfo) (b o dLen dCap : Nat) (sp : Option Addr) (sLen sCap : Nat) (cs : List Value)
    (hu : P.underlying dT = some (.slice elem)) (hi : P.info? elem = some i) (hn : cs.length = Nat.min sLen dLen * i.size)
    (hsrc : 0 < cs.length → ∃ a, sp = some a ∧ ∀ j v, cs[j]? = some v → w.cell? (a.add j) = some v) (hc : ∀ j, j < cs.length → (w.cell? ⟨b, o + j, none⟩).isSome = true) (hf : ∀ j, j < cs.length → w.frozen? ⟨b, o + j, none⟩ = false) (h1 : ∀ v ∈ cs, v.oneCell' = true) :
    (Builtin.copy_ #[dT, sT] ty #[.slice (some ⟨b, o, none⟩) dLen dCap, .slice sp sLen sCap]).run P w = .ok (goInt (Nat.min sLen dLen)) (w.setCells b o cs) := by
  have hst := run_storeCells_cells (P := P) b o cs 0 w (by simpa using hc) (by simpa using hf) h1
  by_cases h0 : 0 < cs.length
  · obtain ⟨a, rfl, hs⟩ := hsrc h0
    have hl := run_loadCells_list (P := P) w a cs hs
    simp [Builtin.copy_, run_underlying hu, Builtin.lenOf, Builtin.firstCells, sizeOf, typeInfo, hi, ← hn, hl, hst]
  · obtain rfl : cs = [] := List.eq_nil_of_length_eq_zero (by omega)
    have hl : ∀ (x : Addr), (loadCells x 0).run P w = .ok #[] w := fun x => by simpa using run_loadCells_list (P := P) w x [] (by simp)
    have hn0 : Nat.min sLen dLen * i.size = 0 := by simpa using hn.symm
    cases sp <;> simp [Builtin.copy_, run_underlying hu, Builtin.lenOf, Builtin.firstCells, sizeOf, typeInfo, hi, hn0, storeCells, hl, World.setCells]

theorem step_copy_size {ops : Array Oper} {op : Oper} {ac : Act} {w : World} {K : Act → World → Prop} {Q : Exit → Act → World → Prop} {E : Prop} (hgd : op.guard = none) (d s : Operand) (dT sT : TypeId)
    (ho : op.op = .call { callee := .builtin .copy, args := #[d, s], argTypes := #[dT, sT] }) (elem : TypeId) (i : TypeInfo) (b o dLen dCap : Nat) (sp : Option Addr) (sLen sCap : Nat) (cs : List Value)
    (hd : ac.eval d = .slice (some ⟨b, o, none⟩) dLen dCap) (hs : ac.eval s = .slice sp sLen sCap)
    (hu : P.underlying dT = some (.slice elem)) (hi : P.info? elem = some i) (m size : Nat) (hm : Nat.min sLen dLen = m) (hsz : i.size = size) (hn : cs.length = m * size)
    (hsrc : 0 < cs.length → ∃ a, sp = some a ∧ ∀ j v, cs[j]? = some v → w.cell? (a.add j) = some v) (hc : ∀ j, j < cs.length → (w.cell? ⟨b, o + j, none⟩).isSome = true) (hf : ∀ j, j < cs.length → w.frozen? ⟨b, o + j, none⟩ = false) (h1 : ∀ v ∈ cs, v.oneCell' = true)
    (h : K (ac.put op.dst (.int .i64 (m : Int))) (w.setCells b o cs)) :
    if Region.wanted op (yielded ops ac.tmps) = true then Oper.wp P op ac w K Q else E := by
  have hw : Region.wanted op (yielded ops ac.tmps) = true := by simp [Region.wanted, hgd]
  rw [if_pos hw]
  have hrun := run_copy_size (P := P) w dT sT op.type elem i b o dLen dCap sp sLen sCap cs hu hi (by rw [hm, hsz]; exact hn) hsrc hc hf h1
  rw [hm] at hrun
  change _ = Result.ok (Value.int .i64 (m : Int)) _ at hrun
  unfold Oper.wp
  simp [execOp, ho, resolve, invoke, builtin, hd, hs, hrun, Result.andThen]
  exact h

theorem wpList_copy_size {ops : Array Oper} {rest : List Oper} {op : Oper} {ac : Act} {w : World} {Q : Exit → Act → World → Prop} (hgd : op.guard = none) (d s : Operand) (dT sT : TypeId)
    (ho : op.op = .call { callee := .builtin .copy, args := #[d, s], argTypes := #[dT, sT] }) (elem : TypeId) (i : TypeInfo) (b o dLen dCap : Nat) (sp : Option Addr) (sLen sCap : Nat) (cs : List Value)
    (hd : ac.eval d = .slice (some ⟨b, o, none⟩) dLen dCap) (hs : ac.eval s = .slice sp sLen sCap)
    (hu : P.underlying dT = some (.slice elem)) (hi : P.info? elem = some i) (m size : Nat) (hm : Nat.min sLen dLen = m) (hsz : i.size = size) (hn : cs.length = m * size)
    (hsrc : 0 < cs.length → ∃ a, sp = some a ∧ ∀ j v, cs[j]? = some v → w.cell? (a.add j) = some v) (hc : ∀ j, j < cs.length → (w.cell? ⟨b, o + j, none⟩).isSome = true) (hf : ∀ j, j < cs.length → w.frozen? ⟨b, o + j, none⟩ = false) (h1 : ∀ v ∈ cs, v.oneCell' = true)
    (h : wpList P ops Q rest (ac.put op.dst (.int .i64 (m : Int))) (w.setCells b o cs)) :
    wpList P ops Q (op :: rest) ac w := by
  refine wpList_plain hgd fun K hK' => ?_
  have hrun := run_copy_size (P := P) w dT sT op.type elem i b o dLen dCap sp sLen sCap cs hu hi (by rw [hm, hsz]; exact hn) hsrc hc hf h1
  rw [hm] at hrun
  change _ = Result.ok (Value.int .i64 (m : Int)) _ at hrun
  unfold Oper.wp
  simp [execOp, ho, resolve, invoke, builtin, hd, hs, hrun, Result.andThen]
  exact hK' _ _ h

/-! ### clear -/
theorem run_clear_size (w : World) (t ty elem : TypeId) (i : TypeInfo) (z : Value) (b o n c : Nat) (ht : P.underlying t = some (.slice elem)) (hi : P.info? elem = some i) (hz : i.zero = some z)
    (hc : ∀ j, j < n * z.cells.size → (w.cell? ⟨b, o + j, none⟩).isSome = true) (hf : ∀ j, j < n * z.cells.size → w.frozen? ⟨b, o + j, none⟩ = false) (h1 : ∀ v ∈ (Builtin.zeroCells z.cells n).toList, v.oneCell' = true) :
    (Builtin.clear_ #[t] ty #[.slice (some ⟨b, o, none⟩) n c]).run P w = .ok (.tuple #[]) (w.setCells b o (Builtin.zeroCells z.cells n).toList) := by
  have hlen : (Builtin.zeroCells z.cells n).toList.length = n * z.cells.size := by simp [Builtin.zeroCells]
  have hst := run_storeCells_cells (P := P) b o (Builtin.zeroCells z.cells n).toList 0 w (by rw [hlen]; simpa using hc) (by rw [hlen]; simpa using hf) h1
  cases n with
  | zero =>
    have e : (Builtin.zeroCells z.cells 0).toList = [] := by simp [Builtin.zeroCells]
    rw [e]
    simp [Builtin.clear_, run_underlying ht, World.setCells]
  | succ m =>
    simp [Builtin.clear_, run_underlying ht, zeroValue, typeInfo, hi, hz, hst]

theorem wpList_clear_size {ops : Array Oper} {rest : List Oper} {op : Oper} {ac : Act} {w : World} {Q : Exit → Act → World → Prop} (hgd : op.guard = none) (s : Operand) (t : TypeId)
    (ho : op.op = .call { callee := .builtin .clear, args := #[s], argTypes := #[t] }) (elem : TypeId) (i : TypeInfo) (z : Value) (b o n c : Nat) (hs : ac.eval s = .slice (some ⟨b, o, none⟩) n c)
    (ht : P.underlying t = some (.slice elem)) (hi : P.info? elem = some i) (hz : i.zero = some z)
    (hc : ∀ j, j < n * z.cells.size → (w.cell? ⟨b, o + j, none⟩).isSome = true) (hf : ∀ j, j < n * z.cells.size → w.frozen? ⟨b, o + j, none⟩ = false) (h1 : ∀ v ∈ (Builtin.zeroCells z.cells n).toList, v.oneCell' = true) (zs : List Value) (hzs : (Builtin.zeroCells z.cells n).toList = zs)
    (h : wpList P ops Q rest (ac.put op.dst (.tuple #[])) (w.setCells b o zs)) :
    wpList P ops Q (op :: rest) ac w := by
  refine wpList_plain hgd fun K hK' => ?_
  have hrun := run_clear_size (P := P) w t op.type elem i z b o n c ht hi hz hc hf h1
  rw [hzs] at hrun
  unfold Oper.wp
  simp [execOp, ho, resolve, invoke, builtin, hs, hrun, Result.andThen]
  exact hK' _ _ h
end

/-! ### rows as flat lists -/
def flat (f : Ev → List Value) (m : Nat) (F : Nat → Ev) : List Value := (List.range m).flatMap fun i => f (F i)
theorem flat_succ (f : Ev → List Value) (m : Nat) (F : Nat → Ev) : flat f (m + 1) F = flat f m F ++ f (F m) := by simp [flat, List.range_succ]
theorem flat_len (f : Ev → List Value) (s : Nat) (hs : ∀ e, (f e).length = s) (F : Nat → Ev) : ∀ m, (flat f m F).length = m * s
  | 0 => by simp [flat]
  | m + 1 => by rw [flat_succ, List.length_append, flat_len f s hs F m, hs, Nat.succ_mul]
theorem flat_get (f : Ev → List Value) (s : Nat) (hs : ∀ e, (f e).length = s) (F : Nat → Ev) : ∀ m i j, i < m → j < s → (flat f m F)[i * s + j]? = (f (F i))[j]?
  | 0, _, _, h, _ => by omega
  | m + 1, i, j, hi, hj => by
    rw [flat_succ]
    have hl := flat_len f s hs F m
    by_cases e : i = m
    · subst e
      rw [List.getElem?_append_right (by omega), hl, show i * s + j - i * s = j by omega]
    · have h2 : i * s + s ≤ m * s := by have := Nat.mul_le_mul_right s (show i + 1 ≤ m by omega); rwa [Nat.succ_mul] at this
      rw [List.getElem?_append_left (by rw [hl]; omega)]
      exact flat_get f s hs F m i j (by omega) hj
theorem ecells_len (e : Ev) : (ecells e).length = 7 := rfl
theorem qcells_len (e : Ev) : (qcells e).length = 5 := rfl
theorem ecells_one (e : Ev) : ∀ v ∈ ecells e, v.oneCell' = true := by
  intro v hv
  simp [ecells] at hv
  rcases hv with rfl | rfl | rfl | rfl | rfl | rfl <;> rfl
theorem qcells_one (e : Ev) : ∀ v ∈ qcells e, v.oneCell' = true := by
  intro v hv
  simp [qcells] at hv
  rcases hv with rfl | rfl | rfl | rfl | rfl <;> rfl
theorem flat_one (f : Ev → List Value) (h : ∀ e, ∀ v ∈ f e, v.oneCell' = true) (m : Nat) (F : Nat → Ev) : ∀ v ∈ flat f m F, v.oneCell' = true := by
  intro v hv
  simp only [flat, List.mem_flatMap] at hv
  obtain ⟨i, _, hi⟩ := hv
  exact h _ v hi
/-- what lies as a flat row, cell by cell -/
theorem flat_cells (w : World) (b o : Nat) (f : Ev → List Value) (s : Nat) (hs : ∀ e, (f e).length = s) (s0 : 0 < s) (F : Nat → Ev) (m : Nat) (h : ∀ i, i < m → w.rangeAt b (o + i * s) (f (F i))) : w.rangeAt b o (flat f m F) := by
  intro j v hv
  have hl := flat_len f s hs F m
  have hj : j < m * s := by
    have : j < (flat f m F).length := (List.getElem?_eq_some_iff.1 hv).1
    omega
  have e1 : j / s * s + j % s = j := by rw [Nat.mul_comm]; exact Nat.div_add_mod j s
  have hi : j / s < m := Nat.div_lt_of_lt_mul (by rw [Nat.mul_comm]; exact hj)
  have hm := Nat.mod_lt j s0
  have h1 := flat_get f s hs F m (j / s) (j % s) hi hm
  rw [e1, hv] at h1
  have h2 := h (j / s) hi (j % s) v h1.symm
  rwa [show o + j / s * s + j % s = o + j by omega] at h2
theorem cells_flat (w : World) (b o : Nat) (f : Ev → List Value) (s : Nat) (hs : ∀ e, (f e).length = s) (F : Nat → Ev) (m : Nat) (h : w.rangeAt b o (flat f m F)) (i : Nat) (hi : i < m) : w.rangeAt b (o + i * s) (f (F i)) := by
  intro j v hv
  have hj : j < s := by rw [← hs (F i)]; exact (List.getElem?_eq_some_iff.1 hv).1
  have h2 := h (i * s + j) v (by rw [flat_get f s hs F m i j hi hj]; exact hv)
  rwa [show o + (i * s + j) = o + i * s + j by omega] at h2
end Go.Proofs.Qxb6613083a
