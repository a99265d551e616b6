/-
  SEAT b6617616a. zzClone (function 5), zzEq (7), zzMax3 (8).
-/
import Derived.Test.Qxb6617616aBase
import Derived.WalkSpells
import Derived.Deep.QuietTactic
import Derived.BigQuiet
import Derived.OwnWalk

namespace Go.Proofs.Qxb6617616a.Pre

open Go.RowKit

theorem info29 : (Try.prog.info? 29).map (fun i => (i.zero, i.size, i.bytes)) = some (some (.int .u64 0), 1, 8) := by kernel_rfl
theorem size29 : (Try.prog.info? 29).map (·.size) = some 1 := by kernel_rfl

/-- Words as cells. -/
def wl (xs : List Nat) : List Value := xs.map fun x : Nat => Value.int .u64 (x : Int)
theorem wl_length (xs : List Nat) : (wl xs).length = xs.length := by simp [wl]
theorem wl_get (xs : List Nat) (i : Nat) (h : i < xs.length) : (wl xs)[i]? = some (.int .u64 ((xs.getD i 0 : Nat) : Int)) := by
  simp [wl, List.getElem?_eq_getElem h]
theorem wl_one (xs : List Nat) : ∀ v ∈ wl xs, v.oneCell' = true := by
  intro v hv
  obtain ⟨z, _, rfl⟩ := List.mem_map.1 hv
  rfl

set_option maxHeartbeats 1000000 in
theorem clone_nil (n c : Nat) (w : World) :
    Calls Try.prog 5 #[.slice none n c] w fun e w' => e = .returned (.slice none 0 0) ∧ w' = w := by
  have hk := fun (w : World) => Lib.run_eql_slice_nil (P := Try.prog) w 22 29 none n c 0 0 Try.underlying22
  go_enter Try.func5, Try.ntmps5
  go_wp2
  go_ret
  exact ⟨rfl, rfl⟩

set_option maxHeartbeats 1000000 in
theorem clone_some (x : Addr) (n c : Nat) (xs : List Nat) (hz : xs.length = n) (hn : n ≤ 1048576) (w : World) (hrd : Rd w (some x) (wl xs)) :
    Calls Try.prog 5 #[.slice (some x) n c] w fun e w' => e = .returned (.slice (some ⟨w.heap.size, 0, none⟩) n n) ∧ Row w' w.heap.size 29 (wl xs) ∧ Below w.heap.size w w' := by
  have hk := fun (w : World) => Lib.run_eql_slice_nil (P := Try.prog) w 22 29 (some x) n c 0 0 Try.underlying22
  have hmk := run_make_row' (P := Try.prog) 22 29 (.int .u64 0) 8 Try.underlying22 info29 rfl .i64 .i64 n (by omega) (by omega)
  have R0 := Row.made w (.int .u64 0) n 29
  have b0 := (Below.refl w.heap.size w).alloc (Nat.le_refl _) (.cells (madeCells #[.int .u64 0] n) 29)
  have rd0 := hrd.since b0
  obtain ⟨w2, hcp, hR, hB⟩ := run_copy_full (P := Try.prog) _ 22 3 29 Try.underlying22 size29 (some x) n c w.heap.size _ (wl xs) 29 R0 (by simp) (by rw [wl_length, hz]) rd0 (wl_one xs) _ w b0 (Nat.le_refl _)
  clear R0 b0 rd0
  go_enter Try.func5, Try.ntmps5
  go_wp2
  go_ret
  exact ⟨rfl, hR, hB⟩

/-- What a copy gives: a row of the call's own. -/
theorem clone_own (a : Option Addr) (n c : Nat) (xs : List Nat) (hz : xs.length = n) (hn : n ≤ 1048576) (hnil : a = none → n = 0) (w : World) (hrd : Rd w a (wl xs)) :
    Calls Try.prog 5 #[.slice a n c] w fun e w' => ∃ v, e = .returned v ∧ w'.ownsRow w.heap.size 29 1 v n (wl xs) ∧ Below w.heap.size w w' := by
  cases a with
  | none =>
    obtain rfl := hnil rfl
    obtain rfl : xs = [] := List.eq_nil_of_length_eq_zero hz
    refine (clone_nil 0 c w).mono ?_
    rintro e w' ⟨rfl, rfl⟩
    exact ⟨_, rfl, World.ownsRow_nil _ _ _ _, Below.refl _ _⟩
  | some x =>
    refine (clone_some x n c xs hz hn w hrd).mono ?_
    rintro e w' ⟨rfl, hr, hb⟩
    exact ⟨_, rfl, hr.owns (Nat.le_refl _) (by rw [wl_length, hz]) (by unfold maxLen; omega), hb⟩

set_option maxHeartbeats 1000000 in
theorem equal_true (a1 a2 : Option Addr) (n c1 c2 : Nat) (xs : List Nat) (hz : xs.length = n) (hn : n ≤ 4194304) (w : World) (h1 : Rd w a1 (wl xs)) (h2 : Rd w a2 (wl xs)) :
    Calls Try.prog 7 #[.slice a1 n c1, .slice a2 n c2] w fun e w' => e = .returned (.bool true) ∧ ∃ m, w' = w.drewN m := by
  have hne : ((n : Int) != (n : Int)) = false := by simp
  go_enter Try.func7, Try.ntmps7
  go_wp2
  go_loopw [5] (fun i wr => ∃ k : Nat, k ≤ n ∧ i = .int .i64 k ∧ ∃ m, wr = w.drewN m) (fun i _ => n - (intOf i).toNat)
  case atStart => exact ⟨0, Nat.zero_le _, rfl, 0, rfl⟩
  case round =>
    obtain ⟨k, hkn, rfl, m, rfl⟩ := hrel
    by_cases hlt : k < n
    · have hv := wl_get xs k (by omega)
      obtain ⟨y, hy⟩ : ∃ y : Int, y = ((xs.getD k 0 : Nat) : Int) := ⟨_, rfl⟩
      rw [← hy] at hv
      obtain ⟨b1, o1, rfl, g1⟩ := h1.at hv
      obtain ⟨b2, o2, rfl, g2⟩ := h2.at hv
      have hfe : (y != y) = false := by simp
      have hlti : (k : Int) < (n : Int) := by omega
      clear hy hv h1 h2
      go_wp2
      go_quiet (fail)
      go_wp2
      go_roundw
      case rel => exact ⟨k + 1, by omega, by go_num, _, rfl⟩
      case measure => simp [intOf]; omega
    · go_wp2
      go_ret
      exact ⟨rfl, m, rfl⟩

theorem max3_any (a b c : Int) (w : World) :
    Calls Try.prog 8 #[.int .i64 a, .int .i64 b, .int .i64 c] w fun e w' => e = .returned (.int .i64 (max (max a b) c)) ∧ w' = w := by
  by_cases h1 : a < b
  · have e1 : max a b = b := by omega
    rw [e1]
    by_cases h2 : b < c
    · have e2 : max b c = c := by omega
      rw [e2]
      go_enter Try.func8, Try.ntmps8
      go_wp2
      go_ret
      exact ⟨rfl, rfl⟩
    · have e2 : max b c = b := by omega
      rw [e2]
      go_enter Try.func8, Try.ntmps8
      go_wp2
      go_ret
      exact ⟨rfl, rfl⟩
  · have e1 : max a b = a := by omega
    rw [e1]
    by_cases h2 : a < c
    · have e2 : max a c = c := by omega
      rw [e2]
      go_enter Try.func8, Try.ntmps8
      go_wp2
      go_ret
      exact ⟨rfl, rfl⟩
    · have e2 : max a c = a := by omega
      rw [e2]
      go_enter Try.func8, Try.ntmps8
      go_wp2
      go_ret
      exact ⟨rfl, rfl⟩

end Go.Proofs.Qxb6617616a.Pre
