/-
  MEMORY: rows of QEv and of events in the cells; 'only these cells have turned'.
-/
import Derived.Test.Qxb6613083aE0
import Derived.WalkSpells
import Derived.WalkLawsBesides
import Derived.Laws.IdiomCopy
import Derived.Deep.MidRow
namespace Go.Proofs.Qxb6613083a
open Go.RowKit

/-! ### only the cells of S have turned -/
structure Ch (S : Nat → Nat → Prop) (w w' : World) : Prop where
  os : w'.os = w.os
  tape : w'.tape = w.tape
  output : w'.output = w.output
  size : w.heap.size ≤ w'.heap.size
  block : ∀ r, r < w.heap.size → (∀ o, ¬ S r o) → w'.heap[r]? = w.heap[r]?
  cell : ∀ r o, r < w.heap.size → ¬ S r o → w'.cell? ⟨r, o, none⟩ = w.cell? ⟨r, o, none⟩
  frozen : ∀ r o, r < w.heap.size → w'.frozen? ⟨r, o, none⟩ = w.frozen? ⟨r, o, none⟩

theorem Ch.refl (S : Nat → Nat → Prop) (w : World) : Ch S w w := ⟨rfl, rfl, rfl, Nat.le_refl _, fun _ _ _ => rfl, fun _ _ _ _ => rfl, fun _ _ _ => rfl⟩
theorem Ch.trans {S : Nat → Nat → Prop} {a b c : World} (h : Ch S a b) (k : Ch S b c) : Ch S a c :=
  ⟨k.os.trans h.os, k.tape.trans h.tape, k.output.trans h.output, Nat.le_trans h.size k.size,
   fun r hr hS => (k.block r (Nat.lt_of_lt_of_le hr h.size) hS).trans (h.block r hr hS),
   fun r o hr hS => (k.cell r o (Nat.lt_of_lt_of_le hr h.size) hS).trans (h.cell r o hr hS),
   fun r o hr => (k.frozen r o (Nat.lt_of_lt_of_le hr h.size)).trans (h.frozen r o hr)⟩
theorem Ch.mono {S T : Nat → Nat → Prop} {w w' : World} (h : Ch S w w') (hST : ∀ r o, r < w.heap.size → S r o → T r o) : Ch T w w' :=
  ⟨h.os, h.tape, h.output, h.size, fun r hr hT => h.block r hr (fun o ho => hT o (hST r o hr ho)), fun r o hr hT => h.cell r o hr (fun hs => hT (hST r o hr hs)), h.frozen⟩
theorem Ch.ofBelow {S : Nat → Nat → Prop} {w w' : World} (h : Below w.heap.size w w') : Ch S w w' :=
  ⟨h.os, h.tape, h.output, h.size, fun r hr _ => h.block r hr, fun r o hr _ => h.cell (p := ⟨r, o, none⟩) hr, fun r o hr => h.frozen (p := ⟨r, o, none⟩) hr⟩
theorem Ch.below {S : Nat → Nat → Prop} {w w' : World} {B : Nat} (h : Ch S w w') (hB : B ≤ w.heap.size) (hS : ∀ r o, r < B → ¬ S r o) : Below B w w' :=
  ⟨h.os, h.tape, h.output, h.size, fun r hr => h.block r (Nat.lt_of_lt_of_le hr hB) (fun o => hS r o hr)⟩
theorem Ch.alloc {S : Nat → Nat → Prop} {a w : World} (h : Ch S a w) (o : Obj) : Ch S a (w.alloc o) :=
  h.trans (Ch.ofBelow ((Below.refl _ _).alloc (Nat.le_refl _) o))
theorem Ch.drew {S : Nat → Nat → Prop} {a w : World} (h : Ch S a w) : Ch S a w.drew := h.trans (Ch.ofBelow (Below.refl _ _).drew)
theorem Ch.drewN {S : Nat → Nat → Prop} {a w : World} (h : Ch S a w) (n : Nat) : Ch S a (w.drewN n) := h.trans (Ch.ofBelow (below_drewN (Below.refl _ _) n))
theorem Ch.setCell {S : Nat → Nat → Prop} {a w : World} (h : Ch S a w) (r o : Nat) (v : Value) (hs : r < a.heap.size → S r o) : Ch S a (w.setCell ⟨r, o, none⟩ v) := by
  have hf : ∀ x, (w.setCell ⟨r, o, none⟩ v).frozen? x = w.frozen? x := fun x => World.frozen?_setCells r [v] o w x
  have hc : ∀ x : Addr, (x.block = r → x.spot = none → x.off < o ∨ o + 1 ≤ x.off) → (w.setCell ⟨r, o, none⟩ v).cell? x = w.cell? x := fun x hx => World.cell?_setCells_out r [v] o w x (by simpa using hx)
  refine ⟨h.os, h.tape, h.output, ?_, fun r' hr hS => ?_, fun r' o' hr hS => ?_, fun r' o' hr => (hf _).trans (h.frozen r' o' hr)⟩
  · have : (w.setCell ⟨r, o, none⟩ v).heap.size = w.heap.size := by simp [World.setCell]
    rw [this]; exact h.size
  · refine Eq.trans (Below.heap_setCell w _ v r' ?_) (h.block r' hr hS)
    intro e
    have e' : r' = r := e
    subst e'
    exact hS o (hs hr)
  · refine Eq.trans (hc _ ?_) (h.cell r' o' hr hS)
    intro e1 _
    have e' : r' = r := e1
    subst e'
    by_cases e2 : o' = o
    · subst e2; exact absurd (hs hr) hS
    · show o' < o ∨ o + 1 ≤ o'; omega
theorem Ch.setCells {S : Nat → Nat → Prop} (r : Nat) : ∀ (vs : List Value) (o : Nat) {a w : World} (_ : Ch S a w) (_ : ∀ j, j < vs.length → r < a.heap.size → S r (o + j)), Ch S a (w.setCells r o vs)
  | [], _, _, _, h, _ => h
  | v :: vs, o, _, _, h, hs => Ch.setCells r vs (o + 1) (h.setCell r o v (fun hr => hs 0 (by simp) hr)) (fun j hj hr => by have := hs (j + 1) (by simpa using hj) hr; rwa [show o + (j + 1) = o + 1 + j by omega] at this)

/-! ### a QEv in five cells -/
abbrev QAt (w : World) (b o : Nat) (e : Ev) : Prop :=
  w.cell? ⟨b, o, none⟩ = some (.int .u64 e.hi) ∧ w.cell? ⟨b, o + 1, none⟩ = some (.int .u64 e.lo) ∧ w.cell? ⟨b, o + 2, none⟩ = some (.int .u64 e.ord) ∧ w.cell? ⟨b, o + 3, none⟩ = some (.int .u8 e.kind) ∧ w.cell? ⟨b, o + 4, none⟩ = some (.int .i64 e.user)
theorem QAt.lt {w : World} {b o : Nat} {e : Ev} (h : QAt w b o e) : b < w.heap.size := World.block_lt_of_cell? w _ h.1
theorem QAt.below {w w' : World} {b o B : Nat} {e : Ev} (h : QAt w b o e) (hb : b < B) (hbel : Below B w w') : QAt w' b o e :=
  ⟨(hbel.cell (p := ⟨b, _, none⟩) hb).trans h.1, (hbel.cell (p := ⟨b, _, none⟩) hb).trans h.2.1, (hbel.cell (p := ⟨b, _, none⟩) hb).trans h.2.2.1, (hbel.cell (p := ⟨b, _, none⟩) hb).trans h.2.2.2.1, (hbel.cell (p := ⟨b, _, none⟩) hb).trans h.2.2.2.2⟩
theorem QAt.alloc {w : World} {b o : Nat} {e : Ev} (h : QAt w b o e) (ob : Obj) : QAt (w.alloc ob) b o e :=
  h.below h.lt ((Below.refl _ _).alloc (Nat.le_refl _) ob)
theorem QAt.ch {S : Nat → Nat → Prop} {w w' : World} {b o : Nat} {e : Ev} (h : QAt w b o e) (hc : Ch S w w') (hS : ∀ j, j < 5 → ¬ S b (o + j)) : QAt w' b o e :=
  have hb := h.lt
  ⟨(hc.cell b _ hb (hS 0 (by omega))).trans h.1, (hc.cell b _ hb (hS 1 (by omega))).trans h.2.1, (hc.cell b _ hb (hS 2 (by omega))).trans h.2.2.1, (hc.cell b _ hb (hS 3 (by omega))).trans h.2.2.2.1, (hc.cell b _ hb (hS 4 (by omega))).trans h.2.2.2.2⟩

/-- A slice of QEv that came in, or that lies below block B: its n elements are E. -/
def QSl (w : World) (B : Nat) (a : Option Addr) (n : Nat) (E : Nat → Ev) : Prop := 0 < n → ∃ b o, a = some ⟨b, o, none⟩ ∧ b < B ∧ ∀ i, i < n → QAt w b (o + i * 5) (E i)
theorem QSl.below {w w' : World} {B : Nat} {a : Option Addr} {n : Nat} {E : Nat → Ev} (h : QSl w B a n E) (hb : Below B w w') : QSl w' B a n E := fun hn =>
  have ⟨b, o, e, hB, hq⟩ := h hn
  ⟨b, o, e, hB, fun i hi => (hq i hi).below hB hb⟩
theorem QSl.mono {w : World} {B B' : Nat} {a : Option Addr} {n : Nat} {E : Nat → Ev} (h : QSl w B a n E) (hB : B ≤ B') : QSl w B' a n E := fun hn =>
  have ⟨b, o, e, hb, hq⟩ := h hn
  ⟨b, o, e, Nat.lt_of_lt_of_le hb hB, hq⟩

/-! ### an event in seven cells -/
abbrev EAt (w : World) (b o : Nat) (e : Ev) : Prop :=
  w.cell? ⟨b, o, none⟩ = some (.int .u64 e.hi) ∧ w.cell? ⟨b, o + 1, none⟩ = some (.int .u64 e.lo) ∧ w.cell? ⟨b, o + 2, none⟩ = some (.int .u64 e.ord) ∧ w.cell? ⟨b, o + 3, none⟩ = some (.int .u8 e.kind) ∧ w.cell? ⟨b, o + 4, none⟩ = some (.int .i64 e.user) ∧ w.cell? ⟨b, o + 5, none⟩ = some (.pointer none) ∧ w.cell? ⟨b, o + 6, none⟩ = some (.pointer none)
/-- the seven cells may be written -/
abbrev EFr (w : World) (b o : Nat) : Prop :=
  w.frozen? ⟨b, o, none⟩ = false ∧ w.frozen? ⟨b, o + 1, none⟩ = false ∧ w.frozen? ⟨b, o + 2, none⟩ = false ∧ w.frozen? ⟨b, o + 3, none⟩ = false ∧ w.frozen? ⟨b, o + 4, none⟩ = false ∧ w.frozen? ⟨b, o + 5, none⟩ = false ∧ w.frozen? ⟨b, o + 6, none⟩ = false
theorem EAt.lt {w : World} {b o : Nat} {e : Ev} (h : EAt w b o e) : b < w.heap.size := World.block_lt_of_cell? w _ h.1
theorem EAt.below {w w' : World} {b o B : Nat} {e : Ev} (h : EAt w b o e) (hb : b < B) (hbel : Below B w w') : EAt w' b o e :=
  ⟨(hbel.cell (p := ⟨b, _, none⟩) hb).trans h.1, (hbel.cell (p := ⟨b, _, none⟩) hb).trans h.2.1, (hbel.cell (p := ⟨b, _, none⟩) hb).trans h.2.2.1, (hbel.cell (p := ⟨b, _, none⟩) hb).trans h.2.2.2.1, (hbel.cell (p := ⟨b, _, none⟩) hb).trans h.2.2.2.2.1, (hbel.cell (p := ⟨b, _, none⟩) hb).trans h.2.2.2.2.2.1, (hbel.cell (p := ⟨b, _, none⟩) hb).trans h.2.2.2.2.2.2⟩
theorem EAt.alloc {w : World} {b o : Nat} {e : Ev} (h : EAt w b o e) (ob : Obj) : EAt (w.alloc ob) b o e :=
  h.below h.lt ((Below.refl _ _).alloc (Nat.le_refl _) ob)
theorem EAt.ch {S : Nat → Nat → Prop} {w w' : World} {b o : Nat} {e : Ev} (h : EAt w b o e) (hc : Ch S w w') (hS : ∀ j, j < 7 → ¬ S b (o + j)) : EAt w' b o e :=
  have hb := h.lt
  ⟨(hc.cell b _ hb (hS 0 (by omega))).trans h.1, (hc.cell b _ hb (hS 1 (by omega))).trans h.2.1, (hc.cell b _ hb (hS 2 (by omega))).trans h.2.2.1, (hc.cell b _ hb (hS 3 (by omega))).trans h.2.2.2.1, (hc.cell b _ hb (hS 4 (by omega))).trans h.2.2.2.2.1, (hc.cell b _ hb (hS 5 (by omega))).trans h.2.2.2.2.2.1, (hc.cell b _ hb (hS 6 (by omega))).trans h.2.2.2.2.2.2⟩
theorem EAt.range {w : World} {b o : Nat} {e : Ev} (h : EAt w b o e) : w.rangeAt b o (ecells e) := by
  obtain ⟨h0, h1, h2, h3, h4, h5, h6⟩ := h
  intro j v hv
  match j, hv with
  | 0, hv => simp [ecells] at hv; subst hv; exact h0
  | 1, hv => simp [ecells] at hv; subst hv; exact h1
  | 2, hv => simp [ecells] at hv; subst hv; exact h2
  | 3, hv => simp [ecells] at hv; subst hv; exact h3
  | 4, hv => simp [ecells] at hv; subst hv; exact h4
  | 5, hv => simp [ecells] at hv; subst hv; exact h5
  | 6, hv => simp [ecells] at hv; subst hv; exact h6
  | j + 7, hv => simp [ecells] at hv
theorem EAt.of_range {w : World} {b o : Nat} {e : Ev} (h : w.rangeAt b o (ecells e)) : EAt w b o e :=
  ⟨h 0 _ rfl, h 1 _ rfl, h 2 _ rfl, h 3 _ rfl, h 4 _ rfl, h 5 _ rfl, h 6 _ rfl⟩

/-- A row of n events at the head of block b, which may be written. -/
structure ERow (w : World) (b n : Nat) (E : Nat → Ev) : Prop where
  lt : b < w.heap.size
  at_ : ∀ i, i < n → EAt w b (i * 7) (E i)
  free : ∀ o, w.frozen? ⟨b, o, none⟩ = false
theorem ERow.fr {w : World} {b n : Nat} {E : Nat → Ev} (h : ERow w b n E) (o : Nat) : EFr w b o := ⟨h.free _, h.free _, h.free _, h.free _, h.free _, h.free _, h.free _⟩
theorem ERow.ch {S : Nat → Nat → Prop} {w w' : World} {b n : Nat} {E : Nat → Ev} (h : ERow w b n E) (hc : Ch S w w') (hS : ∀ o, ¬ S b o) : ERow w' b n E :=
  ⟨Nat.lt_of_lt_of_le h.lt hc.size, fun i hi => (h.at_ i hi).ch hc (fun _ _ => hS _), fun o => (hc.frozen b o h.lt).trans (h.free o)⟩
theorem ERow.less {w : World} {b n n' : Nat} {E : Nat → Ev} (h : ERow w b n E) (hn : n' ≤ n) : ERow w b n' E := ⟨h.lt, fun i hi => h.at_ i (by omega), h.free⟩
theorem ERow.congr {w : World} {b n : Nat} {E E' : Nat → Ev} (h : ERow w b n E) (he : ∀ i, i < n → E' i = E i) : ERow w b n E' := ⟨h.lt, fun i hi => by rw [he i hi]; exact h.at_ i hi, h.free⟩
end Go.Proofs.Qxb6613083a
