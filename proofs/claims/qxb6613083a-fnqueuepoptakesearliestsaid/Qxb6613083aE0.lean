/-
  EVENTS: the plain notions: an event's fields; its cells as a QEv and as an event; before.
-/
import Derived.WalkKit
namespace Go.Proofs.Qxb6613083a
open Go.RowKit

/-- An event in plain fields. -/
structure Ev where
  hi : Int
  lo : Int
  ord : Int
  kind : Int
  user : Int

/-- the zero event -/
def ev0 : Ev := ⟨0, 0, 0, 0, 0⟩
/-- as a QEv, as an event -/
def qcells (e : Ev) : List Value := [.int .u64 e.hi, .int .u64 e.lo, .int .u64 e.ord, .int .u8 e.kind, .int .i64 e.user]
def ecells (e : Ev) : List Value := [.int .u64 e.hi, .int .u64 e.lo, .int .u64 e.ord, .int .u8 e.kind, .int .i64 e.user, .pointer none, .pointer none]
/-- before, by (hi, lo, order) -/
def bef (a b : Ev) : Bool := if a.hi = b.hi then (if a.lo = b.lo then decide (a.ord < b.ord) else decide (a.lo < b.lo)) else decide (a.hi < b.hi)
/-- equal in every field -/
def same (a b : Ev) : Bool := a.hi == b.hi && a.lo == b.lo && a.ord == b.ord && a.kind == b.kind && a.user == b.user
end Go.Proofs.Qxb6613083a
