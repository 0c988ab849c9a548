/-
  WALKS that read a row of QEv: b1LineOK, b1HeapOK, zzBytes of the line's law.
-/
import Derived.Test.Qxb6613083aE1
import Derived.Test.Qxb6613083aM0
import Derived.Deep.LoopGhost
namespace Go.Proofs.Qxb6613083a
open Go.RowKit

theorem eql29 (a b : Ev) (w : World) : (binOp BinOp.eql 29 (.agg #[.int .u64 a.hi, .int .u64 a.lo, .int .u64 a.ord, .int .u8 a.kind, .int .i64 a.user]) (.agg #[.int .u64 b.hi, .int .u64 b.lo, .int .u64 b.ord, .int .u8 b.kind, .int .i64 b.user])).run Try.prog w = .ok (.bool (same a b)) w := by
  go_simp
  unfold same
  cases h1 : a.hi == b.hi <;> cases h2 : a.lo == b.lo <;> cases h3 : a.ord == b.ord <;> cases h4 : a.kind == b.kind <;> cases h5 : a.user == b.user <;> simp_all
theorem neq29 (a b : Ev) (w : World) : (binOp BinOp.neq 29 (.agg #[.int .u64 a.hi, .int .u64 a.lo, .int .u64 a.ord, .int .u8 a.kind, .int .i64 a.user]) (.agg #[.int .u64 b.hi, .int .u64 b.lo, .int .u64 b.ord, .int .u8 b.kind, .int .i64 b.user])).run Try.prog w = .ok (.bool (!same a b)) w := by
  go_simp
  unfold same
  cases h1 : a.hi == b.hi <;> cases h2 : a.lo == b.lo <;> cases h3 : a.ord == b.ord <;> cases h4 : a.kind == b.kind <;> cases h5 : a.user == b.user <;> simp_all
theorem neq29_zero (a : Ev) (w : World) : (binOp BinOp.neq 29 (.agg #[.int .u64 a.hi, .int .u64 a.lo, .int .u64 a.ord, .int .u8 a.kind, .int .i64 a.user]) (.agg #[.int .u64 0, .int .u64 0, .int .u64 0, .int .u8 0, .int .i64 0])).run Try.prog w = .ok (.bool (!same a ev0)) w := neq29 a ev0 w
attribute [local go_sem ↓] eql29 neq29 neq29_zero

/-- a line as the package leaves it -/
def LineP (n : Nat) (E : Nat → Ev) (h : Int) : Prop := 0 ≤ h ∧ h ≤ (n / 2 : Nat) ∧ (∀ i : Nat, (i : Int) < h → same (E i) ev0 = true) ∧ (∀ i : Nat, h + 1 ≤ i → i < n → bef (E i) (E (i - 1)) = false)

set_option maxHeartbeats 1000000 in
theorem lineOK_in (a : Option Addr) (n c h : Nat) (E : Nat → Ev) (w : World) (hn : n ≤ 1048576) (hh : h ≤ n / 2) (hq : QSl w w.heap.size a n E) :
    Calls Try.prog 26 #[.slice a n c, .int .i64 h] w fun r w' => ∃ b : Bool, r = .returned (.bool b) ∧ (b = true ↔ LineP n E h) ∧ Below w.heap.size w w' := by
  have ho1 : (decide ((h : Int) < 0)) = false := decide_eq_false (by omega)
  go_enter Try.func26, Try.ntmps26
  go_wp2
  go_loopw [5] (fun i wr => ∃ k : Nat, k ≤ h ∧ i = .int .i64 k ∧ (∀ j, j < k → same (E j) ev0 = true) ∧ Below w.heap.size w wr) (fun i _ => h - (intOf i).toNat)
  case atStart => exact ⟨0, by omega, rfl, fun j hj => by omega, Below.refl _ _⟩
  case round =>
    obtain ⟨k, hk1, rfl, hsame, hbel⟩ := hrel
    have HS : Hid (∀ j, j < k → same (E j) ev0 = true) := hsame
    clear hsame
    by_cases hk : k < h
    · obtain ⟨b, o, rfl, hb, hq'⟩ := hq (by omega)
      have q1 : QAt wr b (o + k * 5) (E k) := (hq' k (by omega)).below hb hbel
      obtain ⟨q10, q11, q12, q13, q14⟩ := q1
      clear hq' hq
      cases hs : same (E k) ev0 with
      | true =>
        go_wp2
        go_roundw
        case rel => exact ⟨k + 1, by omega, by go_num, fun j hj => by
          by_cases e : j = k
          · rw [e]; exact hs
          · exact HS.out j (by omega), hbel⟩
        case measure => simp [intOf]; omega
      | false =>
        have HF : Hid (¬ LineP n E h) := fun hl => by have := hl.2.2.1 k (by omega); rw [hs] at this; exact absurd this (by decide)
        go_wp2
        go_ret
        exact ⟨false, rfl, ⟨fun e => absurd e (by decide), fun hl => absurd hl HF.out⟩, hbel⟩
    · obtain rfl : k = h := by omega
      go_wp2
      go_loopw [6] (fun i wr => ∃ m : Nat, k + 1 ≤ m ∧ i = .int .i64 m ∧ (∀ j, k + 1 ≤ j → j < m → j < n → bef (E j) (E (j - 1)) = false) ∧ Below w.heap.size w wr) (fun i _ => n - (intOf i).toNat)
      case atStart => exact ⟨k + 1, by omega, by go_num, fun j h1 h2 => by omega, hbel⟩
      case round =>
        clear hbel
        obtain ⟨m, hm1, rfl, hbf, hbel⟩ := hrel
        have HB : Hid (∀ j, k + 1 ≤ j → j < m → j < n → bef (E j) (E (j - 1)) = false) := hbf
        clear hbf
        by_cases hm : m < n
        · obtain ⟨b, o, rfl, hb, hq'⟩ := hq (by omega)
          obtain ⟨j, J⟩ : ∃ j : Nat, Hid (m - 1 = j) := ⟨_, rfl⟩
          have i1 : IntKind.i64.wrap ((m : Int) - 1) = (j : Int) := by have := J.out; rw [IntKind.wrap_i64]; omega
          have i3 : (j : Int) < n := by have := J.out; omega
          have q1 : QAt wr b (o + m * 5) (E m) := (hq' m hm).below hb hbel
          have q2 : QAt wr b (o + j * 5) (E j) := (hq' j (by have := J.out; omega)).below hb hbel
          clear hq' hq
          cases hbb : bef (E m) (E j) with
          | true =>
            have HF : Hid (¬ LineP n E k) := fun hl => by have := hl.2.2.2 m (by omega) hm; rw [J.out, hbb] at this; exact absurd this (by decide)
            go_wp2
            go_region_held3 (fun w' => QAt w' b (o + m * 5) (E m) ∧ QAt w' b (o + j * 5) (E j)) (first | exact ⟨q1, q2⟩ | exact ⟨(q1.alloc _).alloc _, (q2.alloc _).alloc _⟩) ((go_at_call 35; refine (before_any _ _ _).mono ?_; rintro r w1 ⟨rfl, hw⟩; subst hw))
            go_wp2
            go_ret
            exact ⟨false, rfl, ⟨fun e => absurd e (by decide), fun hl => absurd hl HF.out⟩, ((hbel.drew).alloc hbel.size _).alloc (by have := hbel.size; simp; omega) _⟩
          | false =>
            go_wp2
            go_region_held3 (fun w' => QAt w' b (o + m * 5) (E m) ∧ QAt w' b (o + j * 5) (E j)) (first | exact ⟨q1, q2⟩ | exact ⟨(q1.alloc _).alloc _, (q2.alloc _).alloc _⟩) ((go_at_call 35; refine (before_any _ _ _).mono ?_; rintro r w1 ⟨rfl, hw⟩; subst hw))
            go_wp2
            go_roundw
            case rel => exact ⟨m + 1, by omega, by go_num, fun x h1 h2 h3 => by
              by_cases e : x = m
              · rw [e, J.out]; exact hbb
              · exact HB.out x h1 (by omega) h3, ((hbel.drew).alloc hbel.size _).alloc (by have := hbel.size; simp; omega) _⟩
            case measure => simp [intOf]; omega
        · go_wp2
          go_ret
          exact ⟨true, rfl, ⟨fun _ => ⟨by omega, by omega, fun i hi => HS.out i (by omega), fun i h1 h2 => HB.out i (by omega) (by omega) h2⟩, fun _ => rfl⟩, hbel⟩

set_option maxHeartbeats 400000 in
theorem lineOK_any (a : Option Addr) (n c : Nat) (h : Int) (E : Nat → Ev) (w : World) (hn : n ≤ 1048576) (hq : QSl w w.heap.size a n E) :
    Calls Try.prog 26 #[.slice a n c, .int .i64 h] w fun r w' => ∃ b : Bool, r = .returned (.bool b) ∧ (b = true ↔ LineP n E h) ∧ Below w.heap.size w w' := by
  by_cases h0 : h < 0
  · have HF : Hid (¬ LineP n E h) := fun hl => by have := hl.1; omega
    go_enter Try.func26, Try.ntmps26
    go_wp2
    go_ret
    exact ⟨false, rfl, ⟨fun e => absurd e (by decide), fun hl => absurd hl HF.out⟩, Below.refl _ _⟩
  · obtain ⟨k, rfl⟩ := Int.eq_ofNat_of_zero_le (show 0 ≤ h by omega)
    by_cases h1 : k ≤ n / 2
    · exact lineOK_in a n c k E w hn h1 hq
    · have HF : Hid (¬ LineP n E k) := fun hl => by have := hl.2.1; omega
      have h2 : (n : Int) / 2 < k := by omega
      go_enter Try.func26, Try.ntmps26
      go_wp2
      go_ret
      exact .inl ⟨rfl, HF.out, Below.refl _ _⟩
end Go.Proofs.Qxb6613083a
