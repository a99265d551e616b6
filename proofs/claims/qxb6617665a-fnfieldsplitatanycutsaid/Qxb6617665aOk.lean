/-
  SEAT b6617665a. zzBytesOKRootB1 (function 6): it answers some bool and changes nothing; where it answers true no slice is longer than 65536.
-/
import Derived.Test.Qxb6617665aLayWalk

namespace Go.Proofs.Qxb6617665a.Pre

open Go.RowKit

/-- It answers a bool; where that is true, Q. -/
def Says (e : Ending) (Q : Prop) : Prop := ∃ r : Bool, e = .returned (.bool r) ∧ (r = true → Q)

set_option maxHeartbeats 8000000 in
set_option maxRecDepth 100000 in
theorem ok_any (a0 a1 a2 a3 a4 : Option Addr) (n0 c0 n1 c1 n2 c2 n3 c3 n4 c4 : Nat) (S0 S1 : Nat → ByteArray) (s1 s2 s3 : ByteArray) (w : World)
    (h0 : RdF w a0 n0 (fun i => .string (S0 i))) (h1 : RdF w a1 n1 (fun i => .string (S1 i))) :
    Calls Try.prog 6 #[.slice a0 n0 c0, .slice a1 n1 c1, .slice a2 n2 c2, .slice a3 n3 c3, .slice a4 n4 c4, .string s1, .string s2, .string s3] w
      fun e w' => Says e (n0 ≤ 65536 ∧ n1 ≤ 65536 ∧ n2 ≤ 65536 ∧ n3 ≤ 65536 ∧ n4 ≤ 65536) ∧ w' = w := by
  by_cases g : n0 ≤ 65536 ∧ n1 ≤ 65536 ∧ n2 ≤ 65536 ∧ n3 ≤ 65536 ∧ n4 ≤ 65536
  · have HG : Hid _ := g
    have i0 : ¬ ((65536 : Int) < (n0 : Int)) := by omega
    have i1 : ¬ ((65536 : Int) < (n1 : Int)) := by omega
    have i2 : ¬ ((65536 : Int) < (n2 : Int)) := by omega
    have i3 : ¬ ((65536 : Int) < (n3 : Int)) := by omega
    have i4 : ¬ ((65536 : Int) < (n4 : Int)) := by omega
    clear g
    by_cases j1 : (1048576 : Int) < (s1.size : Int)
    · go_enter Try.func6, Try.ntmps6
      go_wp2_with fail
      go_ret
      exact ⟨⟨_, rfl, fun _ => HG.out⟩, rfl⟩
    by_cases j2 : (1048576 : Int) < (s2.size : Int)
    · go_enter Try.func6, Try.ntmps6
      go_wp2_with fail
      go_ret
      exact ⟨⟨_, rfl, fun _ => HG.out⟩, rfl⟩
    by_cases j3 : (1048576 : Int) < (s3.size : Int)
    · go_enter Try.func6, Try.ntmps6
      go_wp2_with fail
      go_ret
      exact ⟨⟨_, rfl, fun _ => HG.out⟩, rfl⟩
    go_enter Try.func6, Try.ntmps6
    go_wp2_with fail
    all_goals (first | (go_ret; exact ⟨⟨_, rfl, fun _ => HG.out⟩, rfl⟩) | skip)
    go_loopw [17, 18] (fun z i wr => (∃ s : Int, z = .int .i64 s) ∧ (∃ k : Nat, k ≤ n0 ∧ i = .int .i64 k) ∧ wr = w) (fun _ i _ => n0 - (intOf i).toNat)
    case atStart => exact ⟨⟨_, rfl⟩, ⟨0, Nat.zero_le _, rfl⟩, rfl⟩
    case round =>
      obtain ⟨⟨s, rfl⟩, ⟨k, hk, rfl⟩, rfl⟩ := hrel
      by_cases hlt : k < n0
      · obtain ⟨b, o, rfl, g⟩ := h0.at hlt
        go_wp2_with fail
        all_goals (first | (go_ret; exact ⟨⟨_, rfl, fun _ => HG.out⟩, rfl⟩) | exact ⟨⟨⟨_, rfl⟩, ⟨k + 1, by omega, by go_num⟩, trivial⟩, by simp [intOf]; omega⟩)
      · go_wp2_with fail
        all_goals (first | (go_ret; exact ⟨⟨_, rfl, fun _ => HG.out⟩, rfl⟩) | skip)
        go_loopw [17, 19] (fun z i wx => (∃ s : Int, z = .int .i64 s) ∧ (∃ k : Nat, k ≤ n1 ∧ i = .int .i64 k) ∧ wx = wr) (fun _ i _ => n1 - (intOf i).toNat)
        case atStart => exact ⟨⟨_, rfl⟩, ⟨0, Nat.zero_le _, rfl⟩, rfl⟩
        case round =>
          obtain ⟨⟨s', rfl⟩, ⟨k', hk', rfl⟩, rfl⟩ := hrel
          by_cases hlt' : k' < n1
          · obtain ⟨b, o, rfl, g⟩ := h1.at hlt'
            go_wp2_with fail
            all_goals (first | (go_ret; exact ⟨⟨_, rfl, fun _ => HG.out⟩, rfl⟩) | exact ⟨⟨⟨_, rfl⟩, ⟨k' + 1, by omega, by go_num⟩, trivial⟩, by simp [intOf]; omega⟩)
          · go_wp2_with fail
            all_goals (go_ret; exact ⟨⟨_, rfl, fun _ => HG.out⟩, rfl⟩)
  · by_cases i0 : (65536 : Int) < (n0 : Int)
    · clear g
      go_enter Try.func6, Try.ntmps6
      go_wp2_with fail
      go_ret
      exact ⟨⟨false, rfl, fun h => by cases h⟩, rfl⟩
    by_cases i1 : (65536 : Int) < (n1 : Int)
    · clear g
      go_enter Try.func6, Try.ntmps6
      go_wp2_with fail
      go_ret
      exact ⟨⟨false, rfl, fun h => by cases h⟩, rfl⟩
    by_cases i2 : (65536 : Int) < (n2 : Int)
    · clear g
      go_enter Try.func6, Try.ntmps6
      go_wp2_with fail
      go_ret
      exact ⟨⟨false, rfl, fun h => by cases h⟩, rfl⟩
    by_cases i3 : (65536 : Int) < (n3 : Int)
    · clear g
      go_enter Try.func6, Try.ntmps6
      go_wp2_with fail
      go_ret
      exact ⟨⟨false, rfl, fun h => by cases h⟩, rfl⟩
    by_cases i4 : (65536 : Int) < (n4 : Int)
    · clear g
      go_enter Try.func6, Try.ntmps6
      go_wp2_with fail
      go_ret
      exact ⟨⟨false, rfl, fun h => by cases h⟩, rfl⟩
    exact absurd ⟨by omega, by omega, by omega, by omega, by omega⟩ g

end Go.Proofs.Qxb6617665a.Pre
