/-
  WALK of b1ToEvents.
-/
import Derived.Test.Qxb6613083aE1
import Derived.Test.Qxb6613083aM1
import Derived.Deep.LoopGhost
namespace Go.Proofs.Qxb6613083a
open Go.RowKit

/-- behind k rounds -/
def fill (E : Nat → Ev) (k : Nat) : Nat → Ev := fun i => if i < k then E i else ev0
theorem fill_upd (E : Nat → Ev) (k i : Nat) : upd (fill E k) k (E k) i = fill E (k + 1) i := by
  unfold upd fill
  by_cases h : i = k
  · subst h; simp
  · by_cases h2 : i < k
    · simp [h, h2]; omega
    · simp [h, h2]; omega

theorem newEvent_op (e : Ev) (w : World) :
    Calls Try.prog 36 #[.int .u64 e.hi, .int .u64 e.lo, .int .u64 e.ord, .int .u8 e.kind, .int .i64 e.user] w fun r w' => r = .returned (.agg #[.int .u64 e.hi, .int .u64 e.lo, .int .u64 e.ord, .int .u8 e.kind, .int .i64 e.user, .pointer none, .pointer none]) ∧ Below w.heap.size w w' :=
  (newEvent_any e w).mono fun _ _ h => ⟨h.1, by rw [h.2]; exact (Below.refl _ _).alloc (Nat.le_refl _) _⟩

set_option maxHeartbeats 1000000 in
theorem toEvents_some (ad : Addr) (n c : Nat) (E : Nat → Ev) (w : World) (hn : n ≤ 1048576) (hq : QSl w w.heap.size (some ad) n E) :
    Calls Try.prog 13 #[.slice (some ad) n c] w fun r w' => ∃ g, r = .returned (.slice (some ⟨g, 0, none⟩) n n) ∧ w.heap.size ≤ g ∧ ERow w' g n E ∧ Below w.heap.size w w' := by
  have hmk := fun W => make32 n hn W
  have hnil := fun W => Lib.run_eql_slice_nil (P := Try.prog) W 23 29 (some ad) n c 0 0 Try.underlying23
  simp only [Option.isNone] at hnil
  go_enter Try.func13, Try.ntmps13
  go_wp2
  obtain ⟨g, hg⟩ : ∃ g, g = w.heap.size := ⟨_, rfl⟩
  have hrow := madeE_row w n
  have hb0 : Below w.heap.size w (w.alloc (madeE n)) := (Below.refl _ _).alloc (Nat.le_refl _) _
  generalize w.alloc (madeE n) = W1 at *
  rw [← hg] at hrow ⊢
  have hgB : w.heap.size ≤ g := by omega
  have HG : Hid (g = w.heap.size) := hg
  clear hg hmk hnil
  go_loopw [4] (fun i wr => ∃ k : Nat, k ≤ n ∧ i = .int .i64 k ∧ ERow wr g n (fill E k) ∧ Below w.heap.size w wr) (fun i _ => n - (intOf i).toNat)
  case atStart => exact ⟨0, by omega, rfl, hrow.congr (fun i _ => by simp [fill]), hb0⟩
  case round =>
    clear hrow hb0
    obtain ⟨k, hkn, rfl, hrow, hbel⟩ := hrel
    by_cases hk : k < n
    · obtain ⟨b, o, had, hb, hq'⟩ := hq (by omega)
      have had' : ad = ⟨b, o, none⟩ := by simpa using had
      subst had'
      clear had
      have q1 : QAt wr b (o + k * 5) (E k) := (hq' k hk).below hb hbel
      have hbl := q1.lt
      have hgl := hrow.lt
      have hne : b ≠ g := by omega
      have q1d : QAt wr.drew b (o + k * 5) (E k) := q1
      clear hq' hq
      have HR : Hid (ERow wr g n (fill E k)) := hrow
      clear hrow
      go_wp2
      go_region_held3 (fun w' => QAt w' b (o + k * 5) (E k)) (first | with_reducible exact q1d | with_reducible exact q2 | with_reducible exact q3) ((go_at_call 36; refine (newEvent_op (E k) _).mono ?_; rintro r w1 ⟨rfl, hb1⟩; have hb1' := (Below.refl _ wr).drew.trans hb1; have q2 := q1.below hbl hb1'; have R1 := HR.out.below hb1'; obtain ⟨g10, g11, g12, g13, g14, g15, g16⟩ := R1.at_ k hk; obtain ⟨f10, f11, f12, f13, f14, f15, f16⟩ := R1.fr (k * 7); have q3 := q2.set_ne g (k * 7) (ecells (E k)) (.inl hne); simp only [World.setCells, ecells, Nat.add_assoc, Nat.reduceAdd] at q3; have HR1 : Hid (ERow w1 g n (fill E k)) := R1; clear R1))
      go_wp2
      go_roundw
      case rel =>
        have R2 := (HR1.out.set hk (E k)).congr (E' := fill E (k + 1)) (fun i _ => (fill_upd E k i).symm)
        have B2 : Below w.heap.size w (w1.setCells g (k * 7) (ecells (E k))) := (hbel.trans (hb1'.mono hbel.size)).trans ((Ch.setCells (S := fun r _ => r = g) g (ecells (E k)) (k * 7) (Ch.refl _ w1) (fun _ _ _ => rfl)).below (Nat.le_trans hbel.size hb1'.size) (fun r _ hr e => by omega))
        exact ⟨k + 1, by omega, by go_num, R2, B2⟩
      case measure => simp [intOf]; omega
    · obtain rfl : k = n := by omega
      go_wp2
      go_ret
      exact ⟨g, rfl, hgB, hrow.congr (fun i hi => by simp [fill, hi]), hbel⟩

theorem toEvents_nil (w : World) :
    Calls Try.prog 13 #[.slice none 0 0] w fun r w' => r = .returned (.slice none 0 0) ∧ w' = w := by
  have hnil := fun W => Lib.run_eql_slice_nil (P := Try.prog) W 23 29 none 0 0 0 0 Try.underlying23
  simp only [Option.isNone] at hnil
  go_enter Try.func13, Try.ntmps13
  go_wp2
  go_ret
  exact ⟨rfl, rfl⟩
end Go.Proofs.Qxb6613083a
