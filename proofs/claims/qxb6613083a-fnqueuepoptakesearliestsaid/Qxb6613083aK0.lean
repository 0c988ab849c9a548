/-
  A REGION THAT DRAWS ITS ORDER, whose operations only read and whose callees write nothing that stood before: one walk, in the order of the text.
-/
import Derived.Test.Qxb6613083aM1
import Derived.BigQuiet
import Derived.Deep.RegionWith
namespace Go.Proofs.Qxb6613083a
open Go.RowKit

/-- a world that keeps whatever stood in w -/
structure BW (w : World) where
  v : World
  h : Below w.heap.size w v
instance (w : World) : Nonempty (BW w) := ⟨⟨w, Below.refl _ _⟩⟩
theorem wp_region_bw {P : Program} {id : Nat} {Q : Exit → Act → World → Prop} {a : Act} {w : World} {l : List Oper} (hm : P.follows .mixedOrders = true) (hB : Region.lexB .any l.toArray = true)
    (h : wpQuiet P l.toArray (fun w' => ∃ x : BW w, w' = x.v) (fun a' => ∀ w', (∃ x : BW w, w' = x.v) → Q .normal a' w') l a) : (Code.region id l.toArray true).wp P Q a w :=
  wp_region_quiet (C := fun w' => ∃ x : BW w, w' = x.v) hm hB ⟨⟨_, (Below.refl _ w).drew⟩, rfl⟩ (by simpa using h)
theorem bw_of {P : Program} {f : FuncId} {args : Array Value} {w : World} {x : BW w} {v : Value}
    (h : Calls P f args x.v fun e w' => e = .returned v ∧ Below x.v.heap.size x.v w') : Calls P f args x.v fun e w'' => e = .returned v ∧ ∃ y : BW w, w'' = y.v :=
  h.mono fun _ w' ⟨he, hb⟩ => ⟨he, ⟨w', x.h.trans (hb.mono x.h.size)⟩, rfl⟩
theorem bw_of_drewN {P : Program} {f : FuncId} {args : Array Value} {w : World} {x : BW w} {v : Value}
    (h : Calls P f args x.v fun e w' => e = .returned v ∧ ∃ k, w' = x.v.drewN k) : Calls P f args x.v fun e w'' => e = .returned v ∧ ∃ y : BW w, w'' = y.v :=
  bw_of (h.mono fun _ _ ⟨he, k, hk⟩ => ⟨he, by rw [hk]; exact below_drewN (Below.refl _ _) k⟩)
theorem EAt.bw {w : World} {b o : Nat} {e : Ev} (h : EAt w b o e) (x : BW w) : EAt x.v b o e := h.below h.lt x.h
theorem QAt.bw {w : World} {b o : Nat} {e : Ev} (h : QAt w b o e) (x : BW w) : QAt x.v b o e := h.below h.lt x.h
theorem cell_bw {w : World} {b o : Nat} {v : Value} (h : w.cell? ⟨b, o, none⟩ = some v) (x : BW w) : x.v.cell? ⟨b, o, none⟩ = some v := (x.h.cell (World.block_lt_of_cell? w _ h)).trans h
end Go.Proofs.Qxb6613083a
