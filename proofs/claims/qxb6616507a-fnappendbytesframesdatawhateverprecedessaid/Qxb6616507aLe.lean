/-
  SEAT b6616507a. zzLE64 (function 8) over the eight bytes of a number.
-/
import Derived.Test.Qxb6616507aBufs

namespace Go.Proofs.Qxb6616507a.Pre

open Go.RowKit

/-- The eight bytes of m, the least first. -/
def le8 (m : Nat) : List Int := (List.range 8).map fun i => ((m / 256 ^ i % 256 : Nat) : Int)
theorem le8_length (m : Nat) : (le8 m).length = 8 := by simp [le8]
theorem le8_get (m i : Nat) (hi : i < 8) : (bl (le8 m))[i]? = some (.int .u8 ((m / 256 ^ i % 256 : Nat) : Int)) := by
  simp [bl, le8, hi]

theorem pow8 (k : Nat) : (2 : Nat) ^ (8 * k) = 256 ^ k := by rw [Nat.pow_mul]

theorem or_step (m k : Nat) (hm : m < 18446744073709551616) :
    bits .or .u64 ((m % 256 ^ k : Nat) : Int) ((m / 256 ^ k % 256 * 256 ^ k : Nat) : Int) = ((m % 256 ^ (k + 1) : Nat) : Int) := by
  have h1 : m % 256 ^ k < 2 ^ (8 * k) := by rw [pow8]; exact Nat.mod_lt _ (Nat.pow_pos (by omega))
  have h2 : m % 256 ^ (k + 1) = m % 256 ^ k + m / 256 ^ k % 256 * 256 ^ k := by
    rw [Nat.pow_succ, Nat.mod_mul, Nat.mul_comm (256 ^ k)]
  have h3 : m % 256 ^ (k + 1) ≤ m := Nat.mod_le _ _
  rw [bits_or_u64_nat _ _ (by omega) (by omega), h2]
  congr 1
  rw [← pow8, Nat.or_comm, ← Nat.shiftLeft_eq, ← Nat.shiftLeft_add_eq_or_of_lt (by rw [← pow8] at h1; exact h1), Nat.add_comm]

theorem or_walk (m k : Nat) (hm : m < 18446744073709551616) :
    bits .or .u64 ((m : Int) % 256 ^ k) (IntKind.u64.wrap ((m : Int) / 256 ^ k % 256 * 2 ^ (8 * k))) = ((m % 256 ^ (k + 1) : Nat) : Int) := by
  have h2 : m % 256 ^ (k + 1) = m % 256 ^ k + m / 256 ^ k % 256 * 256 ^ k := by
    rw [Nat.pow_succ, Nat.mod_mul, Nat.mul_comm (256 ^ k)]
  have h3 : m % 256 ^ (k + 1) ≤ m := Nat.mod_le _ _
  have e1 : (m : Int) % 256 ^ k = ((m % 256 ^ k : Nat) : Int) := by simp
  have e2 : (m : Int) / 256 ^ k % 256 * 2 ^ (8 * k) = ((m / 256 ^ k % 256 * 256 ^ k : Nat) : Int) := by
    rw [show ((2 : Int) ^ (8 * k)) = 256 ^ k by rw [Int.pow_mul]; rfl]; simp
  have e3 : IntKind.u64.wrap ((m / 256 ^ k % 256 * 256 ^ k : Nat) : Int) = ((m / 256 ^ k % 256 * 256 ^ k : Nat) : Int) := by
    rw [IntKind.wrap_u64]; omega
  rw [e1, e2, e3]
  exact or_step m k hm

set_option maxHeartbeats 1000000 in
theorem le64_any (a : Option Addr) (c m : Nat) (hm : m < 18446744073709551616) (w : World) (hrd : Rd w a (bl (le8 m))) :
    Calls Try.prog 8 #[.slice a 8 c] w fun e w' => e = .returned (.int .u64 (m : Int)) ∧ w' = w := by
  go_enter Try.func8, Try.ntmps8
  go_wp2
  go_loopw [3, 4] (fun v i wr => ∃ k : Nat, k ≤ 8 ∧ i = .int .i64 k ∧ v = .int .u64 ((m % 256 ^ k : Nat) : Int) ∧ wr = w) (fun _ i _ => 8 - (intOf i).toNat)
  case atStart => exact ⟨0, Nat.zero_le _, rfl, by simp [Nat.mod_one], rfl⟩
  case round =>
    obtain ⟨k, hk8, rfl, rfl, rfl⟩ := hrel
    by_cases hlt : k < 8
    · obtain ⟨b1, o1, rfl, g1⟩ := hrd.at (le8_get m k hlt)
      have ho := or_walk m k hm
      go_wp2
      refine ⟨⟨k + 1, by omega, by go_num, by simp, trivial⟩, by simp [intOf]; omega⟩
    · obtain rfl : k = 8 := by omega
      have e : m % 256 ^ 8 = m := Nat.mod_eq_of_lt (by omega)
      go_wp2
      go_ret
      refine ⟨?_, rfl⟩
      show Ending.returned (.int .u64 ((m % 256 ^ 8 : Nat) : Int)) = _
      rw [e]

end Go.Proofs.Qxb6616507a.Pre
