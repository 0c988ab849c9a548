/-
  WALKS of the ring: neighbors, neighbor, linkAmong, linkTo, ZZneighbor, ZZlinkTo.
-/
import Derived.Test.Qxb6613077aFmtW1
import Derived.Deep.RegionWith
namespace Go.Proofs.Qxb6613077aFmt
open Go.RowKit

set_option maxHeartbeats 1000000 in
theorem neighbors_core (s p c d o : Int) (b : Bool) (w : World) (h0 : 0 ≤ p) (h1 : p ≤ 7) (ho0 : 0 ≤ o) (ho7 : o ≤ 7)
    (ho : bits BinOp.xor IntKind.i64 p 4 = o) (hc : nextF s p 1 = c) (hd : nextF s p 7 = d) (hb : hasB s o = b) :
    Calls Tryf.prog 22 #[.int .u8 s, .int .i64 p] w fun e w' => e = .returned (.agg #[.int .i64 (nb0 o b), .int .i64 (nb1 p o c b), .int .i64 (nb2 p o c d b)]) ∧ Below w.heap.size w w' := by
  cases b
  all_goals
    go_enter Tryf.func22, Tryf.ntmps22
    go_wp2_with (first | (go_at_call_of 24 (Value.int IntKind.i64 1); refine (next_any s p 1 _ h0 h1 (.inl rfl)).mono ?_; rintro e w' ⟨rfl, rfl⟩) | (go_at_call_of 24 (Value.int IntKind.i64 7); refine (next_any s p 7 _ h0 h1 (.inr rfl)).mono ?_; rintro e w' ⟨rfl, rfl⟩) | (go_at_call 25; refine (has_any s _ _ ho0 ho7).mono ?_; rintro e w' ⟨rfl, rfl⟩))
  all_goals first
    | (exfalso; rcases (‹(_ : Bool) = false ∨ (_ : Bool) = false›) with h | h <;> (simp only [bne_eq_false_iff_eq] at h; omega))
    | exact bodyPost_ret (v := .agg #[.int .i64 (nb0 o _), .int .i64 (nb1 p o c _), .int .i64 (nb2 p o c d _)]) (by simp [results, Tryf.results22, go_sem, nb0, nb1, nb2, *]) rfl ⟨rfl, ((Below.refl _ _).alloc (Nat.le_refl _) _).alloc (by simp) _⟩

theorem neighbors_any (s p : Int) (w : World) (h0 : 0 ≤ p) (h1 : p ≤ 7) :
    Calls Tryf.prog 22 #[.int .u8 s, .int .i64 p] w fun e w' => e = .returned (.agg #[.int .i64 (nbF s p 0), .int .i64 (nbF s p 1), .int .i64 (nbF s p 2)]) ∧ Below w.heap.size w w' :=
  neighbors_core s p (nextF s p 1) (nextF s p 7) (oppI p) (hasB s (oppI p)) w h0 h1 (oppI_bd p h0 h1).1 (oppI_bd p h0 h1).2 rfl rfl rfl rfl

end Go.Proofs.Qxb6613077aFmt
