/-
  WALKS of math/rand/v2's PCG: Mul64, Add64, next, Uint64, NewPCG.
-/
import Derived.Test.Qxb6613083aProg
import Derived.WalkKit
import Derived.WalkSpells
import Derived.WalkLawsBesides
import Derived.Laws.Externs
import Derived.Deep.QuietTactic
import Derived.BigQuiet
import Derived.Outline
namespace Go.Proofs.Qxb6613083a
open Go.RowKit

/-- a law that the kit lacks: a float stored into a cell -/
theorem run_store_float {P : Program} {w : World} {a : Addr} {m : Mode} (k : FloatKind) (n : Nat) : (store a (.float k n) m).run P w = stored P w a (.float k n) m := run_store P w a _ m rfl
attribute [local go_sem] run_store_float

theorem ret_int {k : IntKind} {a b : Int} (h : a = b) : Ending.returned (.int k a) = .returned (.int k b) := by rw [h]
theorem u64w (n : Int) : 0 ≤ IntKind.u64.wrap n ∧ IntKind.u64.wrap n ≤ 18446744073709551615 := by
  rw [IntKind.wrap_u64]; omega

theorem add64 (x y c : Int) (hx : 0 ≤ x) (hy : 0 ≤ y) (hc0 : 0 ≤ c) (hc : c ≤ 1) (w : World) : (callFunc 51 #[.int .u64 x, .int .u64 y, .int .u64 c]).run Try.prog w =
    .ok (.value (.tuple #[.int .u64 ((x + y + c) % 18446744073709551616), .int .u64 ((x + y + c) / 18446744073709551616)])) w := by
  rw [run_callFunc_extern Try.func51 (by kernel_rfl) (by kernel_rfl) (by kernel_rfl) (e := add64Entry) (by kernel_rfl), run_add64 x y c hx hy hc0 hc]
  rfl
theorem add64_0 (x y : Int) (hx : 0 ≤ x) (hy : 0 ≤ y) (w : World) : (callFunc 51 #[.int .u64 x, .int .u64 y, .int .u64 0]).run Try.prog w =
    .ok (.value (.tuple #[.int .u64 ((x + y) % 18446744073709551616), .int .u64 ((x + y) / 18446744073709551616)])) w := by
  simpa using add64 x y 0 hx hy (Int.le_refl 0) (by decide) w

/-- the high word of a product, as math/bits reckons it -/
def mulH (x y : Int) : Int :=
  IntKind.u64.wrap
    (IntKind.u64.wrap
        (IntKind.u64.wrap (x / 4294967296 * (y / 4294967296)) +
          IntKind.u64.wrap
              (IntKind.u64.wrap (x / 4294967296 * bits BinOp.and IntKind.u64 y 4294967295) +
                IntKind.u64.wrap (bits BinOp.and IntKind.u64 x 4294967295 * bits BinOp.and IntKind.u64 y 4294967295) / 4294967296) /
            4294967296) +
      IntKind.u64.wrap
          (bits BinOp.and IntKind.u64
              (IntKind.u64.wrap
                (IntKind.u64.wrap (x / 4294967296 * bits BinOp.and IntKind.u64 y 4294967295) +
                  IntKind.u64.wrap (bits BinOp.and IntKind.u64 x 4294967295 * bits BinOp.and IntKind.u64 y 4294967295) / 4294967296))
              4294967295 +
            IntKind.u64.wrap (bits BinOp.and IntKind.u64 x 4294967295 * (y / 4294967296))) /
        4294967296)
theorem mulH_bd (x y : Int) : 0 ≤ mulH x y ∧ mulH x y ≤ 18446744073709551615 := u64w _

set_option maxHeartbeats 400000 in
theorem mul64_any (x y : Int) (w : World) (_hx : 0 ≤ x) (_hy : 0 ≤ y) :
    Calls Try.prog 50 #[.int .u64 x, .int .u64 y] w fun e w' => e = .returned (.tuple #[.int .u64 (mulH x y), .int .u64 (IntKind.u64.wrap (x * y))]) ∧ w' = w := by
  go_enter Try.func50, Try.ntmps50
  go_wp2
  go_ret2
  exact ⟨rfl, rfl⟩

/-- the state's next low and high word -/
def nextL (l : Int) : Int := (IntKind.u64.wrap (l * 4865540595714422341) + 1442695040888963407) % 18446744073709551616
def nextH (h l : Int) : Int :=
  (IntKind.u64.wrap (mulH l 4865540595714422341 + IntKind.u64.wrap (IntKind.u64.wrap (h * 4865540595714422341) + IntKind.u64.wrap (l * 2549297995355413924))) + 6364136223846793005 +
    (IntKind.u64.wrap (l * 4865540595714422341) + 1442695040888963407) / 18446744073709551616) % 18446744073709551616
theorem nextL_bd (l : Int) : 0 ≤ nextL l ∧ nextL l ≤ 18446744073709551615 := by unfold nextL; omega
theorem nextH_bd (h l : Int) : 0 ≤ nextH h l ∧ nextH h l ≤ 18446744073709551615 := by unfold nextH; omega

set_option maxHeartbeats 1000000 in
theorem next_any (b : Nat) (h l : Int) (w : World) (l0 : 0 ≤ l)
    (c0 : w.cell? ⟨b, 0, none⟩ = some (.int .u64 h)) (c1 : w.cell? ⟨b, 1, none⟩ = some (.int .u64 l)) (f0 : w.frozen? ⟨b, 0, none⟩ = false) (f1 : w.frozen? ⟨b, 1, none⟩ = false) :
    Calls Try.prog 49 #[.pointer (some ⟨b, 0, none⟩)] w fun e w' => e = .returned (.tuple #[.int .u64 (nextH h l), .int .u64 (nextL l)]) ∧ ∃ n, w' = ((w.drewN n).setCell ⟨b, 1, none⟩ (.int .u64 (nextL l))).setCell ⟨b, 0, none⟩ (.int .u64 (nextH h l)) := by
  have A1 := fun W => add64_0 (IntKind.u64.wrap (l * 4865540595714422341)) 1442695040888963407 (u64w _).1 (by decide) W
  have A2 := fun W => add64 (IntKind.u64.wrap (mulH l 4865540595714422341 + IntKind.u64.wrap (IntKind.u64.wrap (h * 4865540595714422341) + IntKind.u64.wrap (l * 2549297995355413924)))) 6364136223846793005 ((IntKind.u64.wrap (l * 4865540595714422341) + 1442695040888963407) / 18446744073709551616) (u64w _).1 (by decide)
    (by have := u64w (l * 4865540595714422341); omega) (by have := u64w (l * 4865540595714422341); omega) W
  go_enter Try.func49, Try.ntmps49
  go_wp2_with fail
  refine (mul64_any l 4865540595714422341 _ l0 (by decide)).mono ?_
  rintro e w1 ⟨rfl, hw⟩
  have hw' := hw.symm
  subst hw'
  go_wp2_with fail
  go_quiet (fail)
  go_wp2_with fail
  go_ret2
  exact ⟨rfl, nq, rfl⟩

/-- what one draw gives -/
def pcgU (h l : Int) : Int :=
  IntKind.u64.wrap (bits BinOp.xor IntKind.u64 (IntKind.u64.wrap (bits BinOp.xor IntKind.u64 (nextH h l) (nextH h l / 4294967296) * 15750249268501108917)) (IntKind.u64.wrap (bits BinOp.xor IntKind.u64 (nextH h l) (nextH h l / 4294967296) * 15750249268501108917) / 281474976710656) * bits BinOp.or IntKind.u64 (nextL l) 1)

set_option maxHeartbeats 1000000 in
theorem uint64_any (b : Nat) (h l : Int) (w : World) (l0 : 0 ≤ l)
    (c0 : w.cell? ⟨b, 0, none⟩ = some (.int .u64 h)) (c1 : w.cell? ⟨b, 1, none⟩ = some (.int .u64 l)) (f0 : w.frozen? ⟨b, 0, none⟩ = false) (f1 : w.frozen? ⟨b, 1, none⟩ = false) :
    Calls Try.prog 47 #[.pointer (some ⟨b, 0, none⟩)] w fun e w' => e = .returned (.int .u64 (pcgU h l)) ∧ ∃ n, w' = ((w.drewN n).setCell ⟨b, 1, none⟩ (.int .u64 (nextL l))).setCell ⟨b, 0, none⟩ (.int .u64 (nextH h l)) := by
  have n1 := nextH_bd h l
  have n2 := nextL_bd l
  go_enter Try.func47, Try.ntmps47
  go_wp2_with fail
  refine (next_any b h l _ l0 c0 c1 f0 f1).mono ?_
  rintro e w1 ⟨rfl, hb⟩
  go_wp2
  go_ret
  exact ⟨rfl, hb⟩

theorem newPCG_any (s t : Int) (w : World) :
    Calls Try.prog 44 #[.int .u64 s, .int .u64 t] w fun e w' => e = .returned (.pointer (some ⟨w.heap.size, 0, none⟩)) ∧ w' = w.alloc (.cells #[.int .u64 s, .int .u64 t] 88) := by
  go_enter Try.func44, Try.ntmps44
  go_wp2
  go_ret
  exact ⟨rfl, rfl⟩

set_option maxHeartbeats 400000 in
theorem newRng_any (s t : Int) (w : World) :
    Calls Try.prog 32 #[.int .u64 s, .int .u64 t] w fun e w' => ∃ c, e = .returned (.agg #[.pointer (some ⟨w.heap.size + 1, 0, none⟩)]) ∧ w' = (w.alloc (.cells #[c] 61)).alloc (.cells #[.int .u64 s, .int .u64 t] 88) := by
  go_enter Try.func32, Try.ntmps32
  go_wp2_with fail
  refine (newPCG_any s t _).mono ?_
  rintro e w1 ⟨rfl, hw⟩
  subst hw
  go_wp2
  exact bodyPost_ret (v := .agg #[.pointer (some ⟨w.heap.size + 1, 0, none⟩)]) (by simp [results, Try.results32, go_sem]) rfl ⟨_, rfl, rfl⟩

set_option maxHeartbeats 400000 in
theorem newChance_any (p : Nat) (b : Int) (w : World) :
    Calls Try.prog 33 #[.float .f64 p, .int .u64 b] w fun e w' => e = .returned (.agg #[.float .f64 p, .int .u64 b]) ∧ w' = w.alloc (.cells #[.float .f64 p, .int .u64 b] 64) := by
  go_enter Try.func33, Try.ntmps33
  go_wp2
  exact bodyPost_ret (v := .agg #[.float .f64 p, .int .u64 b]) (by simp [results, Try.results33, go_sem]) rfl ⟨rfl, rfl⟩

/-- p == 1, p > 0 -/
def isOne (p : Nat) : Bool := FloatKind.f64.format.order p 4607182418800017408 == some Ordering.eq
def isPos (p : Nat) : Bool := FloatKind.f64.format.order p 0 == some Ordering.gt
def cls (p : Nat) : Int := if isOne p then 1 else if isPos p then 2 else 0

set_option maxHeartbeats 400000 in
theorem class_any (p : Nat) (w : World) :
    Calls Try.prog 34 #[.float .f64 p] w fun e w' => e = .returned (.int .i64 (cls p)) ∧ w' = w := by
  cases h1 : isOne p with
  | true =>
    have e : Hid (cls p = 1) := by simp [Hid, cls, h1]
    unfold isOne at h1
    go_enter Try.func34, Try.ntmps34
    go_wp2
    go_ret
    exact ⟨ret_int e.out.symm, rfl⟩
  | false =>
    cases h2 : isPos p with
    | true =>
      have e : Hid (cls p = 2) := by simp [Hid, cls, h1, h2]
      unfold isOne at h1
      unfold isPos at h2
      go_enter Try.func34, Try.ntmps34
      go_wp2
      go_ret
      exact ⟨ret_int e.out.symm, rfl⟩
    | false =>
      have e : Hid (cls p = 0) := by simp [Hid, cls, h1, h2]
      unfold isOne at h1
      unfold isPos at h2
      go_enter Try.func34, Try.ntmps34
      go_wp2
      go_ret
      exact ⟨ret_int e.out.symm, rfl⟩
end Go.Proofs.Qxb6613083a
