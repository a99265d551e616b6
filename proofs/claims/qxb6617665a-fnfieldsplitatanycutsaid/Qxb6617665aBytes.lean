/-
  SEAT b6617665a. The three functions that bound the arguments' sizes (5, 8, 6): each answers some bool and changes nothing.
-/
import Derived.Test.Qxb6617665aLayWalk

namespace Go.Proofs.Qxb6617665a.Pre

open Go.RowKit

set_option maxHeartbeats 8000000 in
set_option maxRecDepth 100000 in
theorem bytes5 (a0 a1 a2 a3 a4 : Option Addr) (n0 c0 n1 c1 n2 c2 n3 c3 n4 c4 : Nat) (S0 S1 : Nat → ByteArray) (p z1 z2 z3 : Int) (e1 e2 q : ByteArray) (w : World)
    (h0 : RdF w a0 n0 (fun i => .string (S0 i))) (h1 : RdF w a1 n1 (fun i => .string (S1 i))) :
    Calls Try.prog 5 #[.slice a0 n0 c0, .slice a1 n1 c1, .slice a2 n2 c2, .slice a3 n3 c3, .slice a4 n4 c4, .int .i64 p, .string e1, .string e2, .int .i64 z1, .int .i64 z2, .int .u8 z3, .string q] w
      fun e w' => (∃ r, e = .returned (.bool r)) ∧ w' = w := by
  go_enter Try.func5, Try.ntmps5
  go_wp2_with fail
  all_goals (first | (go_ret; exact ⟨⟨_, rfl⟩, rfl⟩) | skip)
  go_loopw [25, 26] (fun z i wr => (∃ s : Int, z = .int .i64 s) ∧ (∃ k : Nat, k ≤ n0 ∧ i = .int .i64 k) ∧ wr = w) (fun _ i _ => n0 - (intOf i).toNat)
  case atStart => exact ⟨⟨_, rfl⟩, ⟨0, Nat.zero_le _, rfl⟩, rfl⟩
  case round =>
    obtain ⟨⟨s, rfl⟩, ⟨k, hk, rfl⟩, rfl⟩ := hrel
    by_cases hlt : k < n0
    · obtain ⟨b, o, rfl, g⟩ := h0.at hlt
      go_wp2_with fail
      all_goals (first | (go_ret; exact ⟨⟨_, rfl⟩, rfl⟩) | exact ⟨⟨⟨_, rfl⟩, ⟨k + 1, by omega, by go_num⟩, trivial⟩, by simp [intOf]; omega⟩)
    · go_wp2_with fail
      all_goals (first | (go_ret; exact ⟨⟨_, rfl⟩, rfl⟩) | skip)
      go_loopw [25, 27] (fun z i wx => (∃ s : Int, z = .int .i64 s) ∧ (∃ k : Nat, k ≤ n1 ∧ i = .int .i64 k) ∧ wx = wr) (fun _ i _ => n1 - (intOf i).toNat)
      case atStart => exact ⟨⟨_, rfl⟩, ⟨0, Nat.zero_le _, rfl⟩, rfl⟩
      case round =>
        obtain ⟨⟨s', rfl⟩, ⟨k', hk', rfl⟩, rfl⟩ := hrel
        by_cases hlt' : k' < n1
        · obtain ⟨b, o, rfl, g⟩ := h1.at hlt'
          go_wp2_with fail
          all_goals (first | (go_ret; exact ⟨⟨_, rfl⟩, rfl⟩) | exact ⟨⟨⟨_, rfl⟩, ⟨k' + 1, by omega, by go_num⟩, trivial⟩, by simp [intOf]; omega⟩)
        · go_wp2_with fail
          all_goals (go_ret; exact ⟨⟨_, rfl⟩, rfl⟩)

set_option maxHeartbeats 8000000 in
set_option maxRecDepth 100000 in
theorem bytes8 (a0 a1 a2 a3 a4 : Option Addr) (n0 c0 n1 c1 n2 c2 n3 c3 n4 c4 : Nat) (S0 S1 : Nat → ByteArray) (p : Int) (q : ByteArray) (w : World)
    (h0 : RdF w a0 n0 (fun i => .string (S0 i))) (h1 : RdF w a1 n1 (fun i => .string (S1 i))) :
    Calls Try.prog 8 #[.slice a0 n0 c0, .slice a1 n1 c1, .slice a2 n2 c2, .slice a3 n3 c3, .slice a4 n4 c4, .int .i64 p, .string q] w
      fun e w' => (∃ r, e = .returned (.bool r)) ∧ w' = w := by
  go_enter Try.func8, Try.ntmps8
  go_wp2_with fail
  all_goals (first | (go_ret; exact ⟨⟨_, rfl⟩, rfl⟩) | skip)
  go_loopw [15, 16] (fun z i wr => (∃ s : Int, z = .int .i64 s) ∧ (∃ k : Nat, k ≤ n0 ∧ i = .int .i64 k) ∧ wr = w) (fun _ i _ => n0 - (intOf i).toNat)
  case atStart => exact ⟨⟨_, rfl⟩, ⟨0, Nat.zero_le _, rfl⟩, rfl⟩
  case round =>
    obtain ⟨⟨s, rfl⟩, ⟨k, hk, rfl⟩, rfl⟩ := hrel
    by_cases hlt : k < n0
    · obtain ⟨b, o, rfl, g⟩ := h0.at hlt
      go_wp2_with fail
      all_goals (first | (go_ret; exact ⟨⟨_, rfl⟩, rfl⟩) | exact ⟨⟨⟨_, rfl⟩, ⟨k + 1, by omega, by go_num⟩, trivial⟩, by simp [intOf]; omega⟩)
    · go_wp2_with fail
      all_goals (first | (go_ret; exact ⟨⟨_, rfl⟩, rfl⟩) | skip)
      go_loopw [15, 17] (fun z i wx => (∃ s : Int, z = .int .i64 s) ∧ (∃ k : Nat, k ≤ n1 ∧ i = .int .i64 k) ∧ wx = wr) (fun _ i _ => n1 - (intOf i).toNat)
      case atStart => exact ⟨⟨_, rfl⟩, ⟨0, Nat.zero_le _, rfl⟩, rfl⟩
      case round =>
        obtain ⟨⟨s', rfl⟩, ⟨k', hk', rfl⟩, rfl⟩ := hrel
        by_cases hlt' : k' < n1
        · obtain ⟨b, o, rfl, g⟩ := h1.at hlt'
          go_wp2_with fail
          all_goals (first | (go_ret; exact ⟨⟨_, rfl⟩, rfl⟩) | exact ⟨⟨⟨_, rfl⟩, ⟨k' + 1, by omega, by go_num⟩, trivial⟩, by simp [intOf]; omega⟩)
        · go_wp2_with fail
          all_goals (go_ret; exact ⟨⟨_, rfl⟩, rfl⟩)

end Go.Proofs.Qxb6617665a.Pre
