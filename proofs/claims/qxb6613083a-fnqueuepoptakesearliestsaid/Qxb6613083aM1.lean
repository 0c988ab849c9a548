/-
  MEMORY (2): what 'make' lays; a store of one element into a row.
-/
import Derived.Test.Qxb6613083aProg
import Derived.Test.Qxb6613083aM0
import Derived.OwnWalk
namespace Go.Proofs.Qxb6613083a
open Go.RowKit

/-- E with e at place k -/
def upd (E : Nat → Ev) (k : Nat) (e : Ev) : Nat → Ev := fun i => if i = k then e else E i
theorem upd_same (E : Nat → Ev) (k : Nat) (e : Ev) : upd E k e k = e := by simp [upd]
theorem upd_ne (E : Nat → Ev) (k : Nat) (e : Ev) {i : Nat} (h : i ≠ k) : upd E k e i = E i := by simp [upd, h]

/-- A row of n QEv at the head of block b, which may be written. -/
structure QRow (w : World) (b n : Nat) (E : Nat → Ev) : Prop where
  lt : b < w.heap.size
  at_ : ∀ i, i < n → QAt w b (i * 5) (E i)
  free : ∀ o, w.frozen? ⟨b, o, none⟩ = false
theorem QRow.ch {S : Nat → Nat → Prop} {w w' : World} {b n : Nat} {E : Nat → Ev} (h : QRow w b n E) (hc : Ch S w w') (hS : ∀ o, ¬ S b o) : QRow w' b n E :=
  ⟨Nat.lt_of_lt_of_le h.lt hc.size, fun i hi => (h.at_ i hi).ch hc (fun _ _ => hS _), fun o => (hc.frozen b o h.lt).trans (h.free o)⟩
theorem QRow.below {w w' : World} {b n : Nat} {E : Nat → Ev} (h : QRow w b n E) (hb : Below w.heap.size w w') : QRow w' b n E := h.ch (S := fun _ _ => False) (Ch.ofBelow hb) (fun _ h => h)
theorem ERow.below {w w' : World} {b n : Nat} {E : Nat → Ev} (h : ERow w b n E) (hb : Below w.heap.size w w') : ERow w' b n E := h.ch (S := fun _ _ => False) (Ch.ofBelow hb) (fun _ h => h)
theorem QRow.less {w : World} {b n n' : Nat} {E : Nat → Ev} (h : QRow w b n E) (hn : n' ≤ n) : QRow w b n' E := ⟨h.lt, fun i hi => h.at_ i (by omega), h.free⟩
theorem QRow.congr {w : World} {b n : Nat} {E E' : Nat → Ev} (h : QRow w b n E) (he : ∀ i, i < n → E' i = E i) : QRow w b n E' := ⟨h.lt, fun i hi => by rw [he i hi]; exact h.at_ i hi, h.free⟩
theorem QRow.sl {w : World} {b n : Nat} {E : Nat → Ev} (h : QRow w b n E) : QSl w w.heap.size (some ⟨b, 0, none⟩) n E := fun _ => ⟨b, 0, rfl, h.lt, fun i hi => by rw [Nat.zero_add]; exact h.at_ i hi⟩

/-! ### cells behind a store of one element -/
theorem QAt.range {w : World} {b o : Nat} {e : Ev} (h : QAt w b o e) : w.rangeAt b o (qcells e) := by
  obtain ⟨h0, h1, h2, h3, h4⟩ := h
  intro j v hv
  match j, hv with
  | 0, hv => simp [qcells] at hv; subst hv; exact h0
  | 1, hv => simp [qcells] at hv; subst hv; exact h1
  | 2, hv => simp [qcells] at hv; subst hv; exact h2
  | 3, hv => simp [qcells] at hv; subst hv; exact h3
  | 4, hv => simp [qcells] at hv; subst hv; exact h4
  | j + 5, hv => simp [qcells] at hv
theorem QAt.of_range {w : World} {b o : Nat} {e : Ev} (h : w.rangeAt b o (qcells e)) : QAt w b o e := ⟨h 0 _ rfl, h 1 _ rfl, h 2 _ rfl, h 3 _ rfl, h 4 _ rfl⟩
/-- an element elsewhere is as it was -/
theorem EAt.set_ne {w : World} {b o : Nat} {e : Ev} (h : EAt w b o e) (g o' : Nat) (vs : List Value) (hne : b ≠ g ∨ o + 7 ≤ o' ∨ o' + vs.length ≤ o) : EAt (w.setCells g o' vs) b o e :=
  EAt.of_range (World.rangeAt_setCells_apart h.range g o' vs hne)
theorem QAt.set_ne {w : World} {b o : Nat} {e : Ev} (h : QAt w b o e) (g o' : Nat) (vs : List Value) (hne : b ≠ g ∨ o + 5 ≤ o' ∨ o' + vs.length ≤ o) : QAt (w.setCells g o' vs) b o e :=
  QAt.of_range (World.rangeAt_setCells_apart h.range g o' vs hne)
theorem ERow.there {w : World} {b n : Nat} {E : Nat → Ev} (h : ERow w b n E) {k : Nat} (hk : k < n) : w.there b (k * 7) 7 := fun j hj =>
  ⟨(h.at_ k hk).range.isSome j (by simpa [ecells] using hj), h.free _⟩
theorem QRow.there {w : World} {b n : Nat} {E : Nat → Ev} (h : QRow w b n E) {k : Nat} (hk : k < n) : w.there b (k * 5) 5 := fun j hj =>
  ⟨(h.at_ k hk).range.isSome j (by simpa [qcells] using hj), h.free _⟩
/-- one element stored -/
theorem ERow.set {w : World} {b n : Nat} {E : Nat → Ev} (h : ERow w b n E) {k : Nat} (hk : k < n) (e : Ev) : ERow (w.setCells b (k * 7) (ecells e)) b n (upd E k e) := by
  have hc : Ch (fun _ _ => True) w (w.setCells b (k * 7) (ecells e)) := Ch.setCells b (ecells e) (k * 7) (Ch.refl _ w) (fun _ _ _ => trivial)
  refine ⟨Nat.lt_of_lt_of_le h.lt hc.size, fun i hi => ?_, fun o => (hc.frozen b o h.lt).trans (h.free o)⟩
  by_cases e1 : i = k
  · subst e1
    rw [upd_same]
    exact EAt.of_range (World.rangeAt_setCells_same w b (i * 7) (ecells e) (h.there hi))
  · rw [upd_ne _ _ _ e1]
    exact (h.at_ i hi).set_ne b (k * 7) (ecells e) (by simp only [ecells, List.length_cons, List.length_nil]; omega)
theorem QRow.set {w : World} {b n : Nat} {E : Nat → Ev} (h : QRow w b n E) {k : Nat} (hk : k < n) (e : Ev) : QRow (w.setCells b (k * 5) (qcells e)) b n (upd E k e) := by
  have hc : Ch (fun _ _ => True) w (w.setCells b (k * 5) (qcells e)) := Ch.setCells b (qcells e) (k * 5) (Ch.refl _ w) (fun _ _ _ => trivial)
  refine ⟨Nat.lt_of_lt_of_le h.lt hc.size, fun i hi => ?_, fun o => (hc.frozen b o h.lt).trans (h.free o)⟩
  by_cases e1 : i = k
  · subst e1
    rw [upd_same]
    exact QAt.of_range (World.rangeAt_setCells_same w b (i * 5) (qcells e) (h.there hi))
  · rw [upd_ne _ _ _ e1]
    exact (h.at_ i hi).set_ne b (k * 5) (qcells e) (by simp only [qcells, List.length_cons, List.length_nil]; omega)

/-! ### what 'make' lays -/
theorem madeCells_get (z : Array Value) (n i : Nat) (h : i < n) : (madeCells z n)[i]? = some (z[i % z.size]!) := by simp [madeCells, h]
def zeroV : Array Value := #[.int .u64 0, .int .u64 0, .int .u64 0, .int .u8 0, .int .i64 0, .pointer none, .pointer none]
def zeroQ : Array Value := #[.int .u64 0, .int .u64 0, .int .u64 0, .int .u8 0, .int .i64 0]
/-- a new block of n zero events, of n zero QEv -/
def madeE (n : Nat) : Obj := .cells (madeCells zeroV (n * 7)) 41
def madeQ (n : Nat) : Obj := .cells (madeCells zeroQ (n * 5)) 29
theorem info41 : (Try.prog.info? 41).map (fun i => (i.zero, i.size, i.bytes)) = some (some (.agg zeroV), 7, 56) := by kernel_rfl
theorem info29 : (Try.prog.info? 29).map (fun i => (i.zero, i.size, i.bytes)) = some (some (.agg zeroQ), 5, 40) := by kernel_rfl
theorem make32 (n : Nat) (hn : n ≤ 1048576) (w : World) : (Instr.makeSlice 32 (.int .i64 n) (.int .i64 n)).run Try.prog w = .ok (.slice (some ⟨w.heap.size, 0, none⟩) n n) (w.alloc (madeE n)) := by
  obtain ⟨i, hi, hz0, hz1, hz2⟩ := info_parts info41
  have h := run_make (P := Try.prog) w 32 41 i _ Try.underlying32 hi hz0 .i64 .i64 n n (by omega) (by omega) (by rw [hz2]; omega) (by omega)
  rw [hz1] at h
  simpa [madeE, Value.cells] using h
theorem make23 (n c : Nat) (hn : n ≤ c) (hc : c ≤ 4194304) (w : World) : (Instr.makeSlice 23 (.int .i64 n) (.int .i64 c)).run Try.prog w = .ok (.slice (some ⟨w.heap.size, 0, none⟩) n c) (w.alloc (madeQ c)) := by
  obtain ⟨i, hi, hz0, hz1, hz2⟩ := info_parts info29
  have h := run_make (P := Try.prog) w 23 29 i _ Try.underlying23 hi hz0 .i64 .i64 n c (by omega) (by omega) (by rw [hz2]; omega) (by omega)
  rw [hz1] at h
  simpa [madeQ, Value.cells] using h
theorem alloc_lt (w : World) (ob : Obj) : w.heap.size < (w.alloc ob).heap.size := by simp
theorem alloc_cell (w : World) (cs : Array Value) (t : TypeId) (o : Nat) : (w.alloc (.cells cs t)).cell? ⟨w.heap.size, o, none⟩ = cs[o]? := by
  simp [World.cell?_alloc_at]
theorem alloc_free (w : World) (cs : Array Value) (t : TypeId) (o : Nat) : (w.alloc (.cells cs t)).frozen? ⟨w.heap.size, o, none⟩ = false := by
  unfold World.frozen?
  rw [show (w.alloc (.cells cs t)).heap[(⟨w.heap.size, o, none⟩ : Addr).block]? = some (.cells cs t) from heap_alloc_new w _]
  simp
theorem madeE_row (w : World) (n : Nat) : ERow (w.alloc (madeE n)) w.heap.size n (fun _ => ev0) := by
  refine ⟨alloc_lt _ _, fun i hi => ?_, fun o => alloc_free w _ _ o⟩
  have key : ∀ j, j < 7 → (w.alloc (madeE n)).cell? ⟨w.heap.size, i * 7 + j, none⟩ = some (zeroV[j]!) := fun j hj => by
    rw [madeE, alloc_cell, madeCells_get _ _ _ (by omega)]
    have : (i * 7 + j) % zeroV.size = j := by show (i * 7 + j) % 7 = j; omega
    rw [this]
  exact ⟨key 0 (by omega), key 1 (by omega), key 2 (by omega), key 3 (by omega), key 4 (by omega), key 5 (by omega), key 6 (by omega)⟩
theorem madeQ_row (w : World) (n : Nat) : QRow (w.alloc (madeQ n)) w.heap.size n (fun _ => ev0) := by
  refine ⟨alloc_lt _ _, fun i hi => ?_, fun o => alloc_free w _ _ o⟩
  have key : ∀ j, j < 5 → (w.alloc (madeQ n)).cell? ⟨w.heap.size, i * 5 + j, none⟩ = some (zeroQ[j]!) := fun j hj => by
    rw [madeQ, alloc_cell, madeCells_get _ _ _ (by omega)]
    have : (i * 5 + j) % zeroQ.size = j := by show (i * 5 + j) % 5 = j; omega
    rw [this]
  exact ⟨key 0 (by omega), key 1 (by omega), key 2 (by omega), key 3 (by omega), key 4 (by omega)⟩
end Go.Proofs.Qxb6613083a
