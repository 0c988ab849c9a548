/-
  zzBytes of the three queue laws.
-/
import Derived.Test.Qxb6613083aG5
namespace Go.Proofs.Qxb6613083a
open Go.RowKit
set_option maxHeartbeats 1000000 in
theorem bytes23_any (d : Int) (a0 : Option Addr) (n0 c0 : Nat) (h0 : Int) (a1 : Option Addr) (n1 c1 : Nat) (h1 : Int) (a2 : Option Addr) (n2 c2 : Nat) (w : World) (m0 : n0 ≤ 9223372036854775807) (m1 : n1 ≤ 9223372036854775807) (m2 : n2 ≤ 9223372036854775807) :
    Calls Try.prog 23 #[.int .u64 d, .slice a0 n0 c0, .int .i64 h0, .slice a1 n1 c1, .int .i64 h1, .slice a2 n2 c2] w fun r w' => ∃ b : Bool, r = .returned (.bool b) ∧ w' = w := by
  by_cases e0 : n0 ≤ 1048576
  · by_cases e1 : n1 ≤ 1048576
    · by_cases e01 : n0 + n1 ≤ 1048576
      · by_cases e2 : n2 ≤ 1048576
        · by_cases e3 : n0 + n1 + n2 ≤ 1048576
          · have i3 : ¬ (1048576 : Int) < (n0 : Int) + n1 + n2 := by omega
            go_enter Try.func23, Try.ntmps23
            go_wp2
            go_ret
            first | exact ⟨_, rfl, rfl⟩ | exact ⟨.inr rfl, rfl⟩
          · have i3 : (1048576 : Int) < (n0 : Int) + n1 + n2 := by omega
            go_enter Try.func23, Try.ntmps23
            go_wp2
            go_ret
            first | exact ⟨_, rfl, rfl⟩ | exact ⟨.inr rfl, rfl⟩
        · have i3 : (1048576 : Int) < (n2 : Int) := by omega
          go_enter Try.func23, Try.ntmps23
          go_wp2
          go_ret
          first | exact ⟨_, rfl, rfl⟩ | exact ⟨.inr rfl, rfl⟩
      · have i3 : (1048576 : Int) < (n0 : Int) + n1 := by omega
        go_enter Try.func23, Try.ntmps23
        go_wp2
        go_ret
        first | exact ⟨_, rfl, rfl⟩ | exact ⟨.inr rfl, rfl⟩
    · have i3 : (1048576 : Int) < (n1 : Int) := by omega
      go_enter Try.func23, Try.ntmps23
      go_wp2
      go_ret
      first | exact ⟨_, rfl, rfl⟩ | exact ⟨.inr rfl, rfl⟩
  · have i3 : (1048576 : Int) < (n0 : Int) := by omega
    go_enter Try.func23, Try.ntmps23
    go_wp2
    go_ret
    first | exact ⟨_, rfl, rfl⟩ | exact ⟨.inr rfl, rfl⟩

set_option maxHeartbeats 1000000 in
theorem bytes30_any (d : Int) (a0 : Option Addr) (n0 c0 : Nat) (h0 : Int) (a1 : Option Addr) (n1 c1 : Nat) (h1 : Int) (a2 : Option Addr) (n2 c2 : Nat) (w : World) (m0 : n0 ≤ 9223372036854775807) (m1 : n1 ≤ 9223372036854775807) (m2 : n2 ≤ 9223372036854775807) :
    Calls Try.prog 30 #[.int .u64 d, .slice a0 n0 c0, .int .i64 h0, .slice a1 n1 c1, .int .i64 h1, .slice a2 n2 c2] w fun r w' => ∃ b : Bool, r = .returned (.bool b) ∧ w' = w := by
  by_cases e0 : n0 ≤ 1048576
  · by_cases e1 : n1 ≤ 1048576
    · by_cases e01 : n0 + n1 ≤ 1048576
      · by_cases e2 : n2 ≤ 1048576
        · by_cases e3 : n0 + n1 + n2 ≤ 1048576
          · have i3 : ¬ (1048576 : Int) < (n0 : Int) + n1 + n2 := by omega
            go_enter Try.func30, Try.ntmps30
            go_wp2
            go_ret
            first | exact ⟨_, rfl, rfl⟩ | exact ⟨.inr rfl, rfl⟩
          · have i3 : (1048576 : Int) < (n0 : Int) + n1 + n2 := by omega
            go_enter Try.func30, Try.ntmps30
            go_wp2
            go_ret
            first | exact ⟨_, rfl, rfl⟩ | exact ⟨.inr rfl, rfl⟩
        · have i3 : (1048576 : Int) < (n2 : Int) := by omega
          go_enter Try.func30, Try.ntmps30
          go_wp2
          go_ret
          first | exact ⟨_, rfl, rfl⟩ | exact ⟨.inr rfl, rfl⟩
      · have i3 : (1048576 : Int) < (n0 : Int) + n1 := by omega
        go_enter Try.func30, Try.ntmps30
        go_wp2
        go_ret
        first | exact ⟨_, rfl, rfl⟩ | exact ⟨.inr rfl, rfl⟩
    · have i3 : (1048576 : Int) < (n1 : Int) := by omega
      go_enter Try.func30, Try.ntmps30
      go_wp2
      go_ret
      first | exact ⟨_, rfl, rfl⟩ | exact ⟨.inr rfl, rfl⟩
  · have i3 : (1048576 : Int) < (n0 : Int) := by omega
    go_enter Try.func30, Try.ntmps30
    go_wp2
    go_ret
    first | exact ⟨_, rfl, rfl⟩ | exact ⟨.inr rfl, rfl⟩

set_option maxHeartbeats 1000000 in
theorem bytes8_any (d : Int) (a0 : Option Addr) (n0 c0 : Nat) (h0 : Int) (a1 : Option Addr) (n1 c1 : Nat) (h1 : Int) (a2 : Option Addr) (n2 c2 : Nat) (w : World) (m0 : n0 ≤ 9223372036854775807) (m1 : n1 ≤ 9223372036854775807) (m2 : n2 ≤ 9223372036854775807) :
    Calls Try.prog 8 #[.int .u64 d, .slice a0 n0 c0, .int .i64 h0, .slice a1 n1 c1, .int .i64 h1, .slice a2 n2 c2] w fun r w' => ∃ b : Bool, r = .returned (.bool b) ∧ w' = w := by
  by_cases e0 : n0 ≤ 1048576
  · by_cases e1 : n1 ≤ 1048576
    · by_cases e01 : n0 + n1 ≤ 1048576
      · by_cases e2 : n2 ≤ 1048576
        · by_cases e3 : n0 + n1 + n2 ≤ 1048576
          · have i3 : ¬ (1048576 : Int) < (n0 : Int) + n1 + n2 := by omega
            go_enter Try.func8, Try.ntmps8
            go_wp2
            go_ret
            first | exact ⟨_, rfl, rfl⟩ | exact ⟨.inr rfl, rfl⟩
          · have i3 : (1048576 : Int) < (n0 : Int) + n1 + n2 := by omega
            go_enter Try.func8, Try.ntmps8
            go_wp2
            go_ret
            first | exact ⟨_, rfl, rfl⟩ | exact ⟨.inr rfl, rfl⟩
        · have i3 : (1048576 : Int) < (n2 : Int) := by omega
          go_enter Try.func8, Try.ntmps8
          go_wp2
          go_ret
          first | exact ⟨_, rfl, rfl⟩ | exact ⟨.inr rfl, rfl⟩
      · have i3 : (1048576 : Int) < (n0 : Int) + n1 := by omega
        go_enter Try.func8, Try.ntmps8
        go_wp2
        go_ret
        first | exact ⟨_, rfl, rfl⟩ | exact ⟨.inr rfl, rfl⟩
    · have i3 : (1048576 : Int) < (n1 : Int) := by omega
      go_enter Try.func8, Try.ntmps8
      go_wp2
      go_ret
      first | exact ⟨_, rfl, rfl⟩ | exact ⟨.inr rfl, rfl⟩
  · have i3 : (1048576 : Int) < (n0 : Int) := by omega
    go_enter Try.func8, Try.ntmps8
    go_wp2
    go_ret
    first | exact ⟨_, rfl, rfl⟩ | exact ⟨.inr rfl, rfl⟩

end Go.Proofs.Qxb6613083a
