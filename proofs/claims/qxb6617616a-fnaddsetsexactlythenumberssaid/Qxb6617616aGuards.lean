/-
  SEAT b6617616a. The law's early exits (function 3).
-/
import Derived.Test.Qxb6617616aRows
import Derived.WalkKit
import Derived.Below

namespace Go.Proofs.Qxb6617616a.Law

open Go.RowKit

set_option maxHeartbeats 4000000 in
set_option maxRecDepth 100000 in
theorem guard1 (a : Option Addr) (n c : Nat) (b : Option Addr) (m d : Nat) (i j : Int) (w : World) (h1 : 1048576 < n) :
    Calls Try.prog 3 #[.slice a n c, .slice b m d, .int .i64 i, .int .i64 j] w fun e w' => e = .returned (.bool true) ∧ Below w.heap.size w w' := by
  have i1 : (1048576 : Int) < (n : Int) := by omega
  go_enter Try.func3, Try.ntmps3
  go_wp2_with (first | (go_at_call 4; go_in))
  go_ret
  exact ⟨rfl, Below.refl _ _⟩

set_option maxHeartbeats 4000000 in
set_option maxRecDepth 100000 in
theorem guard2 (a : Option Addr) (n c : Nat) (b : Option Addr) (m d : Nat) (i j : Int) (w : World) (h1 : n ≤ 1048576) (h2 : 1048576 < m) :
    Calls Try.prog 3 #[.slice a n c, .slice b m d, .int .i64 i, .int .i64 j] w fun e w' => e = .returned (.bool true) ∧ Below w.heap.size w w' := by
  have i1 : ¬ (1048576 : Int) < (n : Int) := by omega
  have i2 : (1048576 : Int) < (m : Int) := by omega
  go_enter Try.func3, Try.ntmps3
  go_wp2_with (first | (go_at_call 4; go_in))
  go_ret
  exact ⟨rfl, Below.refl _ _⟩

set_option maxHeartbeats 4000000 in
set_option maxRecDepth 100000 in
theorem guard3 (a : Option Addr) (n c : Nat) (b : Option Addr) (m d : Nat) (i j : Int) (w : World) (h1 : n ≤ 1048576) (h2 : m ≤ 1048576) (h3 : 1048576 < n + m) :
    Calls Try.prog 3 #[.slice a n c, .slice b m d, .int .i64 i, .int .i64 j] w fun e w' => e = .returned (.bool true) ∧ Below w.heap.size w w' := by
  have i1 : ¬ (1048576 : Int) < (n : Int) := by omega
  have i2 : ¬ (1048576 : Int) < (m : Int) := by omega
  have i3 : (1048576 : Int) < (n : Int) + (m : Int) := by omega
  go_enter Try.func3, Try.ntmps3
  go_wp2_with (first | (go_at_call 4; go_in))
  go_ret
  exact ⟨rfl, Below.refl _ _⟩

set_option maxHeartbeats 4000000 in
set_option maxRecDepth 100000 in
theorem guard4 (a : Option Addr) (n c : Nat) (b : Option Addr) (m d : Nat) (i j : Int) (w : World) (h1 : n ≤ 1048576) (h2 : m ≤ 1048576) (h3 : n + m ≤ 1048576) (h4 : 65536 < n) :
    Calls Try.prog 3 #[.slice a n c, .slice b m d, .int .i64 i, .int .i64 j] w fun e w' => e = .returned (.bool true) ∧ Below w.heap.size w w' := by
  have i1 : ¬ (1048576 : Int) < (n : Int) := by omega
  have i2 : ¬ (1048576 : Int) < (m : Int) := by omega
  have i3 : ¬ (1048576 : Int) < (n : Int) + (m : Int) := by omega
  have i4 : (65536 : Int) < (n : Int) := by omega
  go_enter Try.func3, Try.ntmps3
  go_wp2_with (first | (go_at_call 4; go_in))
  go_ret
  exact ⟨rfl, Below.refl _ _⟩

set_option maxHeartbeats 4000000 in
set_option maxRecDepth 100000 in
theorem guard5 (a : Option Addr) (n c : Nat) (b : Option Addr) (m d : Nat) (i j : Int) (w : World) (h2 : m ≤ 1048576) (h3 : n + m ≤ 1048576) (h4 : n ≤ 65536) (h5 : 65536 < m) :
    Calls Try.prog 3 #[.slice a n c, .slice b m d, .int .i64 i, .int .i64 j] w fun e w' => e = .returned (.bool true) ∧ Below w.heap.size w w' := by
  have i1 : ¬ (1048576 : Int) < (n : Int) := by omega
  have i2 : ¬ (1048576 : Int) < (m : Int) := by omega
  have i3 : ¬ (1048576 : Int) < (n : Int) + (m : Int) := by omega
  have i4 : ¬ (65536 : Int) < (n : Int) := by omega
  have i5 : (65536 : Int) < (m : Int) := by omega
  go_enter Try.func3, Try.ntmps3
  go_wp2_with (first | (go_at_call 4; go_in))
  go_ret
  exact ⟨rfl, Below.refl _ _⟩

set_option maxHeartbeats 4000000 in
set_option maxRecDepth 100000 in
theorem guard6 (a : Option Addr) (n c : Nat) (b : Option Addr) (m d : Nat) (i j : Int) (w : World) (h4 : n ≤ 65536) (h5 : m ≤ 65536) (h6 : i < 0) :
    Calls Try.prog 3 #[.slice a n c, .slice b m d, .int .i64 i, .int .i64 j] w fun e w' => e = .returned (.bool true) ∧ Below w.heap.size w w' := by
  have i1 : ¬ (1048576 : Int) < (n : Int) := by omega
  have i2 : ¬ (1048576 : Int) < (m : Int) := by omega
  have i3 : ¬ (1048576 : Int) < (n : Int) + (m : Int) := by omega
  have i4 : ¬ (65536 : Int) < (n : Int) := by omega
  have i5 : ¬ (65536 : Int) < (m : Int) := by omega
  go_enter Try.func3, Try.ntmps3
  go_wp2_with (first | (go_at_call 4; go_in))
  go_ret
  exact ⟨rfl, Below.refl _ _⟩

set_option maxHeartbeats 4000000 in
set_option maxRecDepth 100000 in
theorem guard7 (a : Option Addr) (n c : Nat) (b : Option Addr) (m d : Nat) (i j : Int) (w : World) (h4 : n ≤ 65536) (h5 : m ≤ 65536) (h6 : ¬ i < 0) (h7 : 4194304 ≤ i) :
    Calls Try.prog 3 #[.slice a n c, .slice b m d, .int .i64 i, .int .i64 j] w fun e w' => e = .returned (.bool true) ∧ Below w.heap.size w w' := by
  have i1 : ¬ (1048576 : Int) < (n : Int) := by omega
  have i2 : ¬ (1048576 : Int) < (m : Int) := by omega
  have i3 : ¬ (1048576 : Int) < (n : Int) + (m : Int) := by omega
  have i4 : ¬ (65536 : Int) < (n : Int) := by omega
  have i5 : ¬ (65536 : Int) < (m : Int) := by omega
  go_enter Try.func3, Try.ntmps3
  go_wp2_with (first | (go_at_call 4; go_in))
  go_ret
  exact ⟨rfl, Below.refl _ _⟩

set_option maxHeartbeats 4000000 in
set_option maxRecDepth 100000 in
theorem guard8 (a : Option Addr) (n c : Nat) (b : Option Addr) (m d : Nat) (i j : Int) (w : World) (h4 : n ≤ 65536) (h5 : m ≤ 65536) (h6 : ¬ i < 0) (h7 : i < 4194304) (h8 : j < 0) :
    Calls Try.prog 3 #[.slice a n c, .slice b m d, .int .i64 i, .int .i64 j] w fun e w' => e = .returned (.bool true) ∧ Below w.heap.size w w' := by
  have i1 : ¬ (1048576 : Int) < (n : Int) := by omega
  have i2 : ¬ (1048576 : Int) < (m : Int) := by omega
  have i3 : ¬ (1048576 : Int) < (n : Int) + (m : Int) := by omega
  have i4 : ¬ (65536 : Int) < (n : Int) := by omega
  have i5 : ¬ (65536 : Int) < (m : Int) := by omega
  have i7 : ¬ (4194304 : Int) ≤ i := by omega
  go_enter Try.func3, Try.ntmps3
  go_wp2_with (first | (go_at_call 4; go_in))
  go_ret
  exact ⟨rfl, Below.refl _ _⟩

set_option maxHeartbeats 4000000 in
set_option maxRecDepth 100000 in
theorem guard9 (a : Option Addr) (n c : Nat) (b : Option Addr) (m d : Nat) (i j : Int) (w : World) (h4 : n ≤ 65536) (h5 : m ≤ 65536) (h6 : ¬ i < 0) (h7 : i < 4194304) (h8 : ¬ j < 0) (h9 : 4194304 ≤ j) :
    Calls Try.prog 3 #[.slice a n c, .slice b m d, .int .i64 i, .int .i64 j] w fun e w' => e = .returned (.bool true) ∧ Below w.heap.size w w' := by
  have i1 : ¬ (1048576 : Int) < (n : Int) := by omega
  have i2 : ¬ (1048576 : Int) < (m : Int) := by omega
  have i3 : ¬ (1048576 : Int) < (n : Int) + (m : Int) := by omega
  have i4 : ¬ (65536 : Int) < (n : Int) := by omega
  have i5 : ¬ (65536 : Int) < (m : Int) := by omega
  have i7 : ¬ (4194304 : Int) ≤ i := by omega
  go_enter Try.func3, Try.ntmps3
  go_wp2_with (first | (go_at_call 4; go_in))
  go_ret
  exact ⟨rfl, Below.refl _ _⟩

end Go.Proofs.Qxb6617616a.Law
