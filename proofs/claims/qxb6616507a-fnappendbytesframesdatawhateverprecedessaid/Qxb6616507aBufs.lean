/-
  SEAT b6616507a. zzClone (function 6), zzEqual (7), zzLE64 (8), AppendUint64 (10), appendBytes (9), ZZAppendBytes (5).
-/
import Derived.Test.Qxb6616507aBase
import Derived.WalkSpells
import Derived.Deep.QuietTactic
import Derived.BigQuiet
import Derived.OwnWalk
import Derived.Laws.AppendOwnNone

namespace Go.Proofs.Qxb6616507a.Pre

open Go.RowKit

theorem info5 : (Try.prog.info? 5).map (fun i => (i.zero, i.size, i.bytes)) = some (some (.int .u8 0), 1, 1) := by kernel_rfl
theorem size5 : (Try.prog.info? 5).map (·.size) = some 1 := by kernel_rfl

def bl (zs : List Int) : List Value := zs.map (.int .u8)
theorem bl_length (zs : List Int) : (bl zs).length = zs.length := by simp [bl]
theorem bl_get (zs : List Int) (i : Nat) : (bl zs)[i]? = (zs[i]?).map (Value.int .u8) := by simp [bl]
theorem bl_one (zs : List Int) : ∀ v ∈ bl zs, v.oneCell' = true := by
  intro v hv
  obtain ⟨z, _, rfl⟩ := List.mem_map.1 hv
  rfl

set_option maxHeartbeats 1000000 in
theorem clone_nil (n c : Nat) (w : World) :
    Calls Try.prog 6 #[.slice none n c] w fun e w' => e = .returned (.slice none 0 0) ∧ w' = w := by
  have hk := fun (w : World) => Lib.run_eql_slice_nil (P := Try.prog) w 22 5 none n c 0 0 Try.underlying22
  go_enter Try.func6, Try.ntmps6
  go_wp2
  go_ret
  exact ⟨rfl, rfl⟩

set_option maxHeartbeats 1000000 in
theorem clone_some (x : Addr) (n c : Nat) (zs : List Int) (hz : zs.length = n) (hn : n ≤ 1048576) (w : World) (hrd : Rd w (some x) (bl zs)) :
    Calls Try.prog 6 #[.slice (some x) n c] w fun e w' => e = .returned (.slice (some ⟨w.heap.size, 0, none⟩) n n) ∧ Row w' w.heap.size 5 (bl zs) ∧ Below w.heap.size w w' := by
  have hk := fun (w : World) => Lib.run_eql_slice_nil (P := Try.prog) w 22 5 (some x) n c 0 0 Try.underlying22
  have hmk := run_make_row' (P := Try.prog) 22 5 (.int .u8 0) 1 Try.underlying22 info5 rfl .i64 .i64 n (by omega) (by omega)
  have R0 := Row.made w (.int .u8 0) n 5
  have b0 := (Below.refl w.heap.size w).alloc (Nat.le_refl _) (.cells (madeCells #[.int .u8 0] n) 5)
  have rd0 := hrd.since b0
  obtain ⟨w2, hcp, hR, hB⟩ := run_copy_full (P := Try.prog) _ 22 3 5 Try.underlying22 size5 (some x) n c w.heap.size _ (bl zs) 5 R0 (by simp) (by rw [bl_length, hz]) rd0 (bl_one zs) _ w b0 (Nat.le_refl _)
  clear R0 b0 rd0
  go_enter Try.func6, Try.ntmps6
  go_wp2
  go_ret
  exact ⟨rfl, hR, hB⟩

set_option maxHeartbeats 1000000 in
theorem equal_true (a1 a2 : Option Addr) (n c1 c2 : Nat) (zs : List Int) (hz : zs.length = n) (hn : n ≤ 4194304) (w : World) (h1 : Rd w a1 (bl zs)) (h2 : Rd w a2 (bl zs)) :
    Calls Try.prog 7 #[.slice a1 n c1, .slice a2 n c2] w fun e w' => e = .returned (.bool true) ∧ ∃ m, w' = w.drewN m := by
  have hne : ((n : Int) != (n : Int)) = false := by simp
  go_enter Try.func7, Try.ntmps7
  go_wp2
  go_loopw [5] (fun i wr => ∃ k : Nat, k ≤ n ∧ i = .int .i64 k ∧ ∃ m, wr = w.drewN m) (fun i _ => n - (intOf i).toNat)
  case atStart => exact ⟨0, Nat.zero_le _, rfl, 0, rfl⟩
  case round =>
    obtain ⟨k, hkn, rfl, m, rfl⟩ := hrel
    by_cases hlt : k < n
    · have hv : (bl zs)[k]? = some (.int .u8 (zs[k]'(by omega))) := by rw [bl_get, List.getElem?_eq_getElem (by omega)]; rfl
      obtain ⟨y, hy⟩ : ∃ y, y = zs[k]'(by omega) := ⟨_, rfl⟩
      rw [← hy] at hv
      obtain ⟨b1, o1, rfl, g1⟩ := h1.at hv
      obtain ⟨b2, o2, rfl, g2⟩ := h2.at hv
      have hfe : (y != y) = false := by simp
      have hlti : (k : Int) < (n : Int) := by omega
      clear hy hv h1 h2
      go_wp2
      go_quiet (fail)
      go_wp2
      go_roundw
      case rel => exact ⟨k + 1, by omega, by go_num, _, rfl⟩
      case measure => simp [intOf]; omega
    · go_wp2
      go_ret
      exact ⟨rfl, m, rfl⟩

end Go.Proofs.Qxb6616507a.Pre
