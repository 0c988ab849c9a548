/-
  WALKS: b1HeapOK.
-/
import Derived.Test.Qxb6613083aF5
import Derived.Test.Qxb6613083aE2
namespace Go.Proofs.Qxb6613083a
open Go.RowKit Go.BigFrame

theorem before_below (a b : Ev) (w : World) : Calls Try.prog 35 #[.agg #[.int .u64 a.hi, .int .u64 a.lo, .int .u64 a.ord, .int .u8 a.kind, .int .i64 a.user], .agg #[.int .u64 b.hi, .int .u64 b.lo, .int .u64 b.ord, .int .u8 b.kind, .int .i64 b.user]] w fun r w' => r = .returned (.bool (bef a b)) ∧ Below w.heap.size w w' :=
  (before_any a b w).mono fun _ _ h => ⟨h.1, by rw [h.2]; exact ((Below.refl _ _).alloc (Nat.le_refl _) _).alloc (by simp) _⟩
/-- before, its answer known -/
theorem before_bw {w : World} {a b : Ev} {v : Bool} (h : bef a b = v) (x : BW w) : Calls Try.prog 35 #[.agg #[.int .u64 a.hi, .int .u64 a.lo, .int .u64 a.ord, .int .u8 a.kind, .int .i64 a.user], .agg #[.int .u64 b.hi, .int .u64 b.lo, .int .u64 b.ord, .int .u8 b.kind, .int .i64 b.user]] x.v fun e w'' => e = .returned (.bool v) ∧ ∃ y : BW w, w'' = y.v :=
  bw_of (by have k := before_below a b x.v; rw [h] at k; exact k)

set_option maxHeartbeats 1000000 in
theorem heapOK_any (a : Option Addr) (n c : Nat) (E : Nat → Ev) (w : World) (hn : n ≤ 1048576) (hq : QSl w w.heap.size a n E) :
    Calls Try.prog 21 #[.slice a n c] w fun r w' => ∃ b : Bool, r = .returned (.bool b) ∧ (b = true ↔ HeapP E n) ∧ Below w.heap.size w w' := by
  go_enter Try.func21, Try.ntmps21
  go_wp2_with fail
  go_loopw [3] (fun i wr => ∃ k : Nat, 1 ≤ k ∧ i = .int .i64 k ∧ (∀ j, 1 ≤ j → j < k → j < n → bef (E j) (E ((j - 1) / 2)) = false) ∧ Below w.heap.size w wr) (fun i _ => n - (intOf i).toNat)
  case atStart => exact ⟨1, by omega, rfl, fun j h1 h2 => by omega, Below.refl _ _⟩
  case round =>
    obtain ⟨k, hk1, rfl, hbf, hbel⟩ := hrel
    have HB : Hid (∀ j, 1 ≤ j → j < k → j < n → bef (E j) (E ((j - 1) / 2)) = false) := hbf
    clear hbf
    by_cases hk : k < n
    · obtain ⟨b, o, rfl, hb, hq'⟩ := hq (by omega)
      obtain ⟨d, D⟩ : ∃ d : Nat, Hid (k - 1 = d) := ⟨_, rfl⟩
      obtain ⟨j, J⟩ : ∃ j : Nat, Hid ((k - 1) / 2 = j) := ⟨_, rfl⟩
      have i1 : IntKind.i64.wrap ((k : Int) - 1) = (d : Int) := by have := D.out; rw [IntKind.wrap_i64]; omega
      have i2 : IntKind.i64.wrap ((d : Int).tdiv 2) = (j : Int) := by have := D.out; have := J.out; rw [IntKind.wrap_i64, Int.tdiv_eq_ediv_of_nonneg (by omega)]; omega
      have i2' : wrap64 ((d : Int) / 2) = (j : Int) := by have := D.out; have := J.out; unfold wrap64; omega
      have i3 : (j : Int) < n := by have := J.out; omega
      have i4 : (k : Int) < n := by omega
      have q1 : ∀ x : BW wr, QAt x.v b (o + k * 5) (E k) := ((hq' k hk).below hb hbel).bw
      have q2 : ∀ x : BW wr, QAt x.v b (o + j * 5) (E j) := ((hq' j (by have := J.out; omega)).below hb hbel).bw
      clear hq' hq
      cases hbb : bef (E k) (E j) with
      | true =>
        have HF : Hid (¬ HeapP E n) := fun hl => by have := hl k hk1 hk; rw [J.out, hbb] at this; exact absurd this (by decide)
        have C1 : Hid (∀ x : BW wr, Calls Try.prog 35 #[.agg #[.int .u64 ((E k)).hi, .int .u64 ((E k)).lo, .int .u64 ((E k)).ord, .int .u8 ((E k)).kind, .int .i64 ((E k)).user], .agg #[.int .u64 ((E j)).hi, .int .u64 ((E j)).lo, .int .u64 ((E j)).ord, .int .u8 ((E j)).kind, .int .i64 ((E j)).user]] x.v fun e w'' => e = .returned (.bool true) ∧ ∃ y : BW wr, w'' = y.v) := before_bw hbb
        go_upto_region 4 with fail
        refine wp_region_bw (by kernel_rfl) (by kernel_rfl) ?_
        repeat (go_big_quiet_step (with_reducible exact C1.out _))
        refine wpQuiet_nil ?_
        rintro _ ⟨⟨w1, hb1⟩, rfl⟩
        go_wp2
        go_ret
        exact ⟨false, rfl, ⟨fun e => absurd e (by decide), fun hl => absurd hl HF.out⟩, hbel.trans (hb1.mono hbel.size)⟩
      | false =>
        have C1 : Hid (∀ x : BW wr, Calls Try.prog 35 #[.agg #[.int .u64 ((E k)).hi, .int .u64 ((E k)).lo, .int .u64 ((E k)).ord, .int .u8 ((E k)).kind, .int .i64 ((E k)).user], .agg #[.int .u64 ((E j)).hi, .int .u64 ((E j)).lo, .int .u64 ((E j)).ord, .int .u8 ((E j)).kind, .int .i64 ((E j)).user]] x.v fun e w'' => e = .returned (.bool false) ∧ ∃ y : BW wr, w'' = y.v) := before_bw hbb
        go_upto_region 4 with fail
        refine wp_region_bw (by kernel_rfl) (by kernel_rfl) ?_
        repeat (go_big_quiet_step (with_reducible exact C1.out _))
        refine wpQuiet_nil ?_
        rintro _ ⟨⟨w1, hb1⟩, rfl⟩
        clear q1 q2 C1
        go_wp2
        go_roundw
        case rel => exact ⟨k + 1, by omega, by go_num, fun x h1 h2 h3 => by
          by_cases e : x = k
          · rw [e, J.out]; exact hbb
          · exact HB.out x h1 (by omega) h3, hbel.trans (hb1.mono hbel.size)⟩
        case measure => simp [intOf]; omega
    · have HT : Hid (HeapP E n) := fun j h1 h2 => HB.out j h1 (by omega) h2
      go_wp2
      go_ret
      exact ⟨true, rfl, ⟨fun _ => HT.out, fun _ => rfl⟩, hbel⟩
end Go.Proofs.Qxb6613083a
