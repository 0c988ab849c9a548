/-
  THE QUEUE's STATE; WALK of queue.pop, ZZqueuePop.
-/
import Derived.Test.Qxb6613083aF2
import Derived.Test.Qxb6613083aE7
namespace Go.Proofs.Qxb6613083a
open Go.RowKit Go.BigFrame

/-- a line: its slice's address, its row's block, length, capacity, head, events -/
structure Ln where
  a : Option Addr
  b : Nat
  n : Nat
  c : Nat
  h : Nat
  E : Nat → Ev
/-- the timed events -/
structure Tm where
  a : Option Addr
  b : Nat
  n : Nat
  c : Nat
  E : Nat → Ev
def Ln.live (L : Ln) : List Ev := seg L.E L.h (L.n - L.h)
def Tm.live (t : Tm) : List Ev := seg t.E 0 t.n
structure LnOK (w : World) (qb lo : Nat) (L : Ln) : Prop where
  nc : L.n ≤ L.c
  cb : L.c ≤ 1048576
  hn : L.h ≤ L.n / 2
  at_ : LnAt w qb lo (.slice L.a L.n L.c) L.h
  row : 0 < L.n → L.a = some ⟨L.b, 0, none⟩ ∧ ERow w L.b L.n L.E
  ne : L.b ≠ qb
structure TmOK (w : World) (qb qo : Nat) (t : Tm) : Prop where
  nc : t.n ≤ t.c
  cb : t.c ≤ 1048576
  at_ : TmAt w qb qo (.slice t.a t.n t.c)
  row : 0 < t.n → t.a = some ⟨t.b, 0, none⟩ ∧ ERow w t.b t.n t.E
  heap : HeapP t.E t.n
  ne : t.b ≠ qb
theorem LnOK.ch {S : Nat → Nat → Prop} {w w' : World} {qb lo : Nat} {L : Ln} (s : LnOK w qb lo L) (hc : Ch S w w') (h0 : ¬ S qb lo) (h1 : ¬ S qb (lo + 1)) (hb : ∀ o, ¬ S L.b o) : LnOK w' qb lo L :=
  ⟨s.nc, s.cb, s.hn, s.at_.ch hc h0 h1, fun h => ⟨(s.row h).1, (s.row h).2.ch hc hb⟩, s.ne⟩
theorem LnOK.below {w w' : World} {qb lo : Nat} {L : Ln} (s : LnOK w qb lo L) (hb : Below w.heap.size w w') : LnOK w' qb lo L := s.ch (S := fun _ _ => False) (Ch.ofBelow hb) id id (fun _ h => h)
theorem TmOK.ch {S : Nat → Nat → Prop} {w w' : World} {qb qo : Nat} {t : Tm} (s : TmOK w qb qo t) (hc : Ch S w w') (h0 : ¬ S qb qo) (hb : ∀ o, ¬ S t.b o) : TmOK w' qb qo t :=
  ⟨s.nc, s.cb, s.at_.ch hc h0, fun h => ⟨(s.row h).1, (s.row h).2.ch hc hb⟩, s.heap, s.ne⟩
theorem TmOK.below {w w' : World} {qb qo : Nat} {t : Tm} (s : TmOK w qb qo t) (hb : Below w.heap.size w w') : TmOK w' qb qo t := s.ch (S := fun _ _ => False) (Ch.ofBelow hb) id (fun _ h => h)
theorem LnOK.st {w : World} {qb lo : Nat} {L : Ln} (s : LnOK w qb lo L) (h : L.h < L.n) : LineSt w qb lo L.b L.n L.c L.h L.E :=
  ⟨s.nc, s.cb, s.hn, by have := s.at_; rw [(s.row (by omega)).1] at this; exact this, (s.row (by omega)).2, s.ne⟩
theorem LnOK.hle {w : World} {qb lo : Nat} {L : Ln} (s : LnOK w qb lo L) : L.h ≤ L.n := by have := s.hn; omega
theorem LnOK.nb {w : World} {qb lo : Nat} {L : Ln} (s : LnOK w qb lo L) : L.n ≤ 1048576 := Nat.le_trans s.nc s.cb
/-- the first of a line -/
theorem LnOK.first {w : World} {qb lo : Nat} {L : Ln} (s : LnOK w qb lo L) (h : L.h < L.n) : EAt w L.b (L.h * 7) (L.E L.h) := (s.row (by omega)).2.at_ L.h h

/-- a queue: two lines, the timed events -/
structure Qs where
  l0 : Ln
  l1 : Ln
  tm : Tm
structure QSt (w : World) (B qb : Nat) (dl : Int) (s : Qs) : Prop where
  d : w.cell? ⟨qb, 0, none⟩ = some (.int .u64 dl)
  q0 : LnOK w qb 1 s.l0
  q1 : LnOK w qb 3 s.l1
  qt : TmOK w qb 5 s.tm
  n01 : s.l0.b ≠ s.l1.b
  n0t : s.l0.b ≠ s.tm.b
  n1t : s.l1.b ≠ s.tm.b
  Bq : B ≤ qb
  B0 : B ≤ s.l0.b
  B1 : B ≤ s.l1.b
  Bt : B ≤ s.tm.b
theorem QSt.below {w w' : World} {B qb : Nat} {dl : Int} {s : Qs} (h : QSt w B qb dl s) (hb : Below w.heap.size w w') : QSt w' B qb dl s :=
  ⟨(hb.cell (World.block_lt_of_cell? w _ h.d)).trans h.d, h.q0.below hb, h.q1.below hb, h.qt.below hb, h.n01, h.n0t, h.n1t, h.Bq, h.B0, h.B1, h.Bt⟩
/-- line L gives up its first, e, and is L' -/
def LPop (L L' : Ln) (e : Ev) : Prop := L.h < L.n ∧ e = L.E L.h ∧ L'.b = L.b ∧ L'.c = L.c ∧ Popped L.n L.h L.E L'.n L'.h L'.E
def TPop (t t' : Tm) (e : Ev) : Prop := t.n = t'.n + 1 ∧ e = t.E 0 ∧ t'.b = t.b ∧ t'.c = t.c ∧ (seg t'.E 0 t'.n).Perm (seg t.E 1 t'.n)
/-- e is no later than the first of each -/
def Least (s : Qs) (e : Ev) : Prop := (s.l0.h < s.l0.n → bef (s.l0.E s.l0.h) e = false) ∧ (s.l1.h < s.l1.n → bef (s.l1.E s.l1.h) e = false) ∧ (0 < s.tm.n → bef (s.tm.E 0) e = false)
def Step (s s' : Qs) (e : Ev) : Prop := Least s e ∧
  ((LPop s.l0 s'.l0 e ∧ s'.l1 = s.l1 ∧ s'.tm = s.tm) ∨ (LPop s.l1 s'.l1 e ∧ s'.l0 = s.l0 ∧ s'.tm = s.tm) ∨ (TPop s.tm s'.tm e ∧ s'.l0 = s.l0 ∧ s'.l1 = s.l1))

/-- what popping a line does to the queue -/
theorem QSt.pop0 {w w' : World} {B qb : Nat} {dl : Int} {s : Qs} (h : QSt w B qb dl s) {n' h' : Nat} {E' : Nat → Ev} (st : LineSt w' qb 1 s.l0.b n' s.l0.c h' E') (hc : Ch (popS qb 1 s.l0.b) w w') :
    QSt w' B qb dl { s with l0 := ⟨some ⟨s.l0.b, 0, none⟩, s.l0.b, n', s.l0.c, h', E'⟩ } := by
  have hq := World.block_lt_of_cell? w _ h.d
  have nS : ∀ o, o ≠ 1 → o ≠ 2 → ¬ popS qb 1 s.l0.b qb o := fun o h1 h2 e => by
    rcases e with e | e
    · exact h.q0.ne e.symm
    · have := e.2; omega
  have nB : ∀ b, b ≠ s.l0.b → b ≠ qb → ∀ o, ¬ popS qb 1 s.l0.b b o := fun b h1 h2 o e => by
    rcases e with e | e
    · exact h1 e
    · exact h2 e.1
  exact ⟨(hc.cell _ _ hq (nS 0 (by omega) (by omega))).trans h.d, ⟨st.nc, st.cb, st.hn, st.at_, fun _ => ⟨rfl, st.row⟩, st.ne⟩,
    h.q1.ch hc (nS 3 (by omega) (by omega)) (nS 4 (by omega) (by omega)) (nB _ h.n01.symm h.q1.ne), h.qt.ch hc (nS 5 (by omega) (by omega)) (nB _ h.n0t.symm h.qt.ne), h.n01, h.n0t, h.n1t, h.Bq, h.B0, h.B1, h.Bt⟩
theorem QSt.pop1 {w w' : World} {B qb : Nat} {dl : Int} {s : Qs} (h : QSt w B qb dl s) {n' h' : Nat} {E' : Nat → Ev} (st : LineSt w' qb 3 s.l1.b n' s.l1.c h' E') (hc : Ch (popS qb 3 s.l1.b) w w') :
    QSt w' B qb dl { s with l1 := ⟨some ⟨s.l1.b, 0, none⟩, s.l1.b, n', s.l1.c, h', E'⟩ } := by
  have hq := World.block_lt_of_cell? w _ h.d
  have nS : ∀ o, o ≠ 3 → o ≠ 4 → ¬ popS qb 3 s.l1.b qb o := fun o h1 h2 e => by
    rcases e with e | e
    · exact h.q1.ne e.symm
    · have := e.2; omega
  have nB : ∀ b, b ≠ s.l1.b → b ≠ qb → ∀ o, ¬ popS qb 3 s.l1.b b o := fun b h1 h2 o e => by
    rcases e with e | e
    · exact h1 e
    · exact h2 e.1
  exact ⟨(hc.cell _ _ hq (nS 0 (by omega) (by omega))).trans h.d, h.q0.ch hc (nS 1 (by omega) (by omega)) (nS 2 (by omega) (by omega)) (nB _ h.n01 h.q0.ne), ⟨st.nc, st.cb, st.hn, st.at_, fun _ => ⟨rfl, st.row⟩, st.ne⟩,
    h.qt.ch hc (nS 5 (by omega) (by omega)) (nB _ h.n1t.symm h.qt.ne), h.n01, h.n0t, h.n1t, h.Bq, h.B0, h.B1, h.Bt⟩
theorem QSt.popT {w w' : World} {B qb : Nat} {dl : Int} {s : Qs} (h : QSt w B qb dl s) {m : Nat} {T' : Nat → Ev} (hm : s.tm.n = m + 1) (hv : TmAt w' qb 5 (.slice (some ⟨s.tm.b, 0, none⟩) m s.tm.c)) (row : ERow w' s.tm.b m T') (hp : HeapP T' m) (hc : Ch (tpS qb 5 s.tm.b) w w') :
    QSt w' B qb dl { s with tm := ⟨some ⟨s.tm.b, 0, none⟩, s.tm.b, m, s.tm.c, T'⟩ } := by
  have hq := World.block_lt_of_cell? w _ h.d
  have nS : ∀ o, o ≠ 5 → ¬ tpS qb 5 s.tm.b qb o := fun o h1 e => by
    rcases e with e | e
    · exact h.qt.ne e.symm
    · exact h1 e.2
  have nB : ∀ b, b ≠ s.tm.b → b ≠ qb → ∀ o, ¬ tpS qb 5 s.tm.b b o := fun b h1 h2 o e => by
    rcases e with e | e
    · exact h1 e
    · exact h2 e.1
  have hnc := h.qt.nc
  exact ⟨(hc.cell _ _ hq (nS 0 (by omega))).trans h.d, h.q0.ch hc (nS 1 (by omega)) (nS 2 (by omega)) (nB _ h.n0t h.q0.ne), h.q1.ch hc (nS 3 (by omega)) (nS 4 (by omega)) (nB _ h.n1t h.q1.ne),
    ⟨by show m ≤ s.tm.c; omega, h.qt.cb, hv, fun _ => ⟨rfl, row⟩, hp, h.qt.ne⟩, h.n01, h.n0t, h.n1t, h.Bq, h.B0, h.B1, h.Bt⟩
theorem popS_ge' {B lb b : Nat} (hl : B ≤ lb) (hb : B ≤ b) (lo : Nat) : ∀ r o, r < B → ¬ popS lb lo b r o := fun r o hr e => by
  rcases e with e | e
  · omega
  · have := e.1; omega
theorem tpS_ge {B qb b : Nat} (hl : B ≤ qb) (hb : B ≤ b) (qo : Nat) : ∀ r o, r < B → ¬ tpS qb qo b r o := fun r o hr e => by
  rcases e with e | e
  · omega
  · have := e.1; omega

/-- what the queue owns -/
def qS (qb : Nat) (s : Qs) : Nat → Nat → Prop := fun r _ => r = qb ∨ (0 < s.l0.n ∧ r = s.l0.b) ∨ (0 < s.l1.n ∧ r = s.l1.b) ∨ (0 < s.tm.n ∧ r = s.tm.b)
/-- is line 1 chosen? -/
def pick1 (s : Qs) : Bool := decide (s.l1.h < s.l1.n) && (decide (s.l0.h = s.l0.n) || bef (s.l1.E s.l1.h) (s.l0.E s.l0.h))
/-- the chosen line, whichever it is -/
theorem pickLine {w : World} {B qb : Nat} {dl : Int} {s : Qs} (hq : QSt w B qb dl s) (hB : B ≤ w.heap.size) : ∃ (lo : Nat) (L : Ln), lo = (if pick1 s = true then 3 else 1) ∧ LnOK w qb lo L ∧ L.b ≠ s.tm.b ∧
    (∀ (w' : World) (n' h' : Nat) (E' : Nat → Ev), L.h < L.n → LineSt w' qb lo L.b n' L.c h' E' → Popped L.n L.h L.E n' h' E' → Ch (popS qb lo L.b) w w' → (0 < s.tm.n → bef (s.tm.E 0) (L.E L.h) = false) → ∃ s', QSt w' B qb dl s' ∧ Step s s' (L.E L.h) ∧ Below B w w' ∧ Ch (qS qb s) w w') ∧
    ((L.h < L.n → bef (s.tm.E 0) (L.E L.h) = true) → Least s (s.tm.E 0)) ∧ ((s.l0.h < s.l0.n ∨ s.l1.h < s.l1.n ∨ 0 < s.tm.n) → L.h < L.n ∨ 0 < s.tm.n) := by
  have hle0 := hq.q0.hle
  have hle1 := hq.q1.hle
  cases hp : pick1 s with
  | true =>
    have hp' := hp
    simp only [pick1, Bool.and_eq_true, Bool.or_eq_true, decide_eq_true_eq] at hp'
    obtain ⟨h1, h0⟩ := hp'
    refine ⟨3, s.l1, rfl, hq.q1, hq.n1t, fun w' n' h' E' hlt st pp hc ht => ?_, fun hb => ?_, fun _ => .inl h1⟩
    · refine ⟨_, hq.pop1 st hc, ⟨⟨fun h => ?_, fun _ => bef_irrefl _, ht⟩, .inr (.inl ⟨⟨hlt, rfl, rfl, rfl, pp⟩, rfl, rfl⟩)⟩, hc.below hB (popS_ge' hq.Bq hq.B1 3), hc.mono (fun r o _ e => by rcases e with e | e; exact .inr (.inr (.inl ⟨by omega, e⟩)); exact .inl e.1)⟩
      rcases h0 with h0 | h0
      · omega
      · exact bef_asymm h0
    · have hb1 := hb h1
      refine ⟨fun h => ?_, fun _ => bef_asymm hb1, fun _ => bef_irrefl _⟩
      rcases h0 with h0 | h0
      · omega
      · exact bef_asymm (bef_trans hb1 h0)
  | false =>
    have hno : s.l1.h < s.l1.n → s.l0.h < s.l0.n ∧ bef (s.l1.E s.l1.h) (s.l0.E s.l0.h) = false := fun h => by
      have hp' := hp
      simp only [pick1, h, decide_true, Bool.true_and, Bool.or_eq_false_iff, decide_eq_false_iff_not] at hp'
      exact ⟨by omega, hp'.2⟩
    refine ⟨1, s.l0, rfl, hq.q0, hq.n0t, fun w' n' h' E' hlt st pp hc ht => ?_, fun hb => ?_, fun h => ?_⟩
    · exact ⟨_, hq.pop0 st hc, ⟨⟨fun _ => bef_irrefl _, fun h => (hno h).2, ht⟩, .inl ⟨⟨hlt, rfl, rfl, rfl, pp⟩, rfl, rfl⟩⟩, hc.below hB (popS_ge' hq.Bq hq.B0 1), hc.mono (fun r o _ e => by rcases e with e | e; exact .inr (.inl ⟨by omega, e⟩); exact .inl e.1)⟩
    · refine ⟨fun h => bef_asymm (hb h), fun h => ?_, fun _ => bef_irrefl _⟩
      exact nbef_trans (bef_asymm (hb (hno h).1)) (hno h).2
    · rcases h with h | h | h
      · exact .inl h
      · exact .inl (hno h).1
      · exact .inr h
end Go.Proofs.Qxb6613083a
