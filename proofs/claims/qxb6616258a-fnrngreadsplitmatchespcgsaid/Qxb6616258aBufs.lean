/-
  SEAT b6616258a. zzCloneBytesB1 (function 6), zzEqualBytesB1 (10), ZZnewRngReader (8).
-/
import Derived.Test.Qxb6616258aBase
import Derived.Deep.OwnRows
import Derived.WalkSpells
import Derived.Deep.QuietTactic
import Derived.BigQuiet
namespace Go.Proofs.Qxb6616258a.Pcg
open Go.RowKit

theorem info5 : (Try.prog.info? 5).map (fun i => (i.zero, i.size, i.bytes)) = some (some (.int .u8 0), 1, 1) := by kernel_rfl

/-- n bytes can be read behind a: byte i is f i. -/
def Rd (w : World) (a : Option Addr) (n : Nat) (f : Nat → Int) : Prop :=
  n = 0 ∨ ∃ b off, a = some ⟨b, off, none⟩ ∧ ∀ i, i < n → w.cell? ⟨b, off + i, none⟩ = some (.int .u8 (f i))

/-- A buffer of the call's own: block g (if there is a byte at all). -/
def Buf (w : World) (g : Nat) (a : Option Addr) (n c : Nat) (f : Nat → Int) : Prop :=
  n = 0 ∨ (a = some ⟨g, 0, none⟩ ∧ c = n ∧ w.rowIs g 5 n (fun i => .int .u8 (f i)))

theorem Buf.rd {w : World} {g : Nat} {a : Option Addr} {n c : Nat} {f : Nat → Int} (h : Buf w g a n c f) : Rd w a n f := by
  rcases h with h | ⟨h, _, hr⟩
  · exact .inl h
  · exact .inr ⟨g, 0, h, fun i hi => by rw [Nat.zero_add]; exact hr.cell hi⟩

theorem Rd.congr {w : World} {a : Option Addr} {n : Nat} {f f' : Nat → Int} (h : Rd w a n f) (e : ∀ i, i < n → f i = f' i) : Rd w a n f' := by
  rcases h with h | ⟨b, off, ha, hc⟩
  · exact .inl h
  · exact .inr ⟨b, off, ha, fun i hi => by rw [hc i hi, e i hi]⟩

theorem Buf.keep {S : Nat → Prop} {w w' : World} {g : Nat} {a : Option Addr} {n c : Nat} {f : Nat → Int} (h : Buf w g a n c f) (hf : Fr S w w') (hS : ¬ S g) : Buf w' g a n c f := by
  rcases h with h | ⟨h, hc, hr⟩
  · exact .inl h
  · exact .inr ⟨h, hc, hr.of_block (hf.block g hr.lt hS)⟩

theorem Rd.keep {S : Nat → Prop} {w w' : World} {a : Option Addr} {n : Nat} {f : Nat → Int} (h : Rd w a n f) (hf : Fr S w w') (hS : ∀ x, a = some x → x.block < w.heap.size → ¬ S x.block) : Rd w' a n f := by
  rcases h with h | ⟨b, off, ha, hc⟩
  · exact .inl h
  · refine .inr ⟨b, off, ha, fun i hi => ?_⟩
    have hlt := World.block_lt_of_cell? w _ (hc i hi)
    rw [World.cell?_of_block (w := w) (hf.block b hlt (hS _ ha hlt))]
    exact hc i hi

set_option maxHeartbeats 1000000 in
theorem clone_nil (n c : Nat) (w : World) :
    Calls Try.prog 6 #[.slice none n c] w fun e w' => e = .returned (.slice none 0 0) ∧ w' = w := by
  have hk := fun (w : World) => Lib.run_eql_slice_nil (P := Try.prog) w 23 5 none n c 0 0 Try.underlying23
  go_enter Try.func6, Try.ntmps6
  go_wp2
  go_ret
  exact ⟨rfl, rfl⟩

set_option maxHeartbeats 1000000 in
theorem clone_some (x : Addr) (n c : Nat) (f : Nat → Int) (hn : n ≤ 1048576) (w : World) (hrd : Rd w (some x) n f) :
    Calls Try.prog 6 #[.slice (some x) n c] w fun e w' => e = .returned (.slice (some ⟨w.heap.size, 0, none⟩) n n) ∧ w'.rowIs w.heap.size 5 n (fun i => .int .u8 (f i)) ∧ Below w.heap.size w w' := by
  have hk := fun (w : World) => Lib.run_eql_slice_nil (P := Try.prog) w 23 5 (some x) n c 0 0 Try.underlying23
  have hmk := run_make_row' (P := Try.prog) 23 5 (.int .u8 0) 1 Try.underlying23 info5 rfl .i64 .i64 n (by omega) (by omega)
  go_enter Try.func6, Try.ntmps6
  go_wp2
  go_loopw [4] (fun i wr => ∃ k : Nat, k ≤ n ∧ i = .int .i64 k ∧ wr.rowIs w.heap.size 5 n (fun j => .int .u8 (if j < k then f j else 0)) ∧ Below w.heap.size w wr) (fun i _ => n - (intOf i).toNat)
  case atStart =>
    exact ⟨0, Nat.zero_le _, rfl, (World.rowIs_made w (.int .u8 0) n 5).congr (fun i _ => by simp), (Below.refl _ _).alloc (Nat.le_refl _) _⟩
  case round =>
    obtain ⟨k, hkn, rfl, hrow, hbel⟩ := hrel
    by_cases hlt : k < n
    · rcases hrd with h0 | ⟨b, off, hx, hcells⟩
      · omega
      · obtain rfl := Option.some.inj hx
        have hcx : wr.cell? ⟨b, off + k, none⟩ = some (.int .u8 (f k)) := by
          have hlt2 := World.block_lt_of_cell? w _ (hcells k hlt)
          exact (hbel.cell (p := ⟨b, off + k, none⟩) hlt2).trans (hcells k hlt)
        have hcy : wr.cell? ⟨w.heap.size, k, none⟩ = some (.int .u8 0) := by have := hrow.cell hlt; simpa using this
        have hfy := hrow.frozen k
        have R1 := (hrow.set k (.int .u8 (f k))).congr (g := fun j => .int .u8 (if j < k + 1 then f j else 0)) (fun j hj => by
          by_cases e : j = k
          · subst e; simp
          · simp only [e, if_false]
            by_cases e2 : j < k
            · rw [if_pos e2, if_pos (by omega)]
            · rw [if_neg e2, if_neg (by omega)])
        have R2 := hbel.setCell (p := ⟨w.heap.size, k, none⟩) (Nat.le_refl _) (.int .u8 (f k))
        clear hrow hcells
        go_wp2
        go_roundw
        case rel => exact ⟨k + 1, by omega, by go_num, R1, R2⟩
        case measure => simp [intOf]; omega
    · go_wp2
      go_ret
      refine ⟨rfl, hrow.congr (fun i hi => by rw [if_pos (by omega)]), hbel⟩

set_option maxHeartbeats 1000000 in
theorem equal_true (a1 a2 : Option Addr) (n c1 c2 : Nat) (f : Nat → Int) (hn : n ≤ 1048576) (w : World) (h1 : Rd w a1 n f) (h2 : Rd w a2 n f) :
    Calls Try.prog 10 #[.slice a1 n c1, .slice a2 n c2] w fun e w' => e = .returned (.bool true) ∧ ∃ m, w' = w.drewN m := by
  have hne : ((n : Int) != (n : Int)) = false := by simp
  go_enter Try.func10, Try.ntmps10
  go_wp2
  go_loopw [5] (fun i wr => ∃ k : Nat, k ≤ n ∧ i = .int .i64 k ∧ ∃ m, wr = w.drewN m) (fun i _ => n - (intOf i).toNat)
  case atStart => exact ⟨0, Nat.zero_le _, rfl, 0, rfl⟩
  case round =>
    obtain ⟨k, hkn, rfl, m, rfl⟩ := hrel
    by_cases hlt : k < n
    · rcases h1 with h0 | ⟨b1, o1, rfl, hc1⟩
      · omega
      rcases h2 with h0 | ⟨b2, o2, rfl, hc2⟩
      · omega
      have g1 := hc1 k hlt
      have g2 := hc2 k hlt
      have hfe : (f k != f k) = false := by simp
      have hlti : (k : Int) < (n : Int) := by omega
      clear hc1 hc2
      go_wp2
      go_quiet (fail)
      go_wp2
      go_roundw
      case rel => exact ⟨k + 1, by omega, by go_num, _, rfl⟩
      case measure => simp [intOf]; omega
    · go_wp2
      go_ret
      exact ⟨rfl, m, rfl⟩

set_option maxHeartbeats 1000000 in
theorem new_any (s1 s2 : Int) (w : World) :
    Calls Try.prog 8 #[.int .u64 s1, .int .u64 s2] w fun e w' => e = .returned (.agg #[.pointer (some ⟨w.heap.size + 2, 0, none⟩)]) ∧ w'.heap[w.heap.size + 1]? = some (.cells #[.int .u64 s1, .int .u64 s2] 51 (0, 0)) ∧
      w'.cell? ⟨w.heap.size + 2, 0, none⟩ = some (.iface 41 (.pointer (some ⟨w.heap.size + 1, 0, none⟩))) ∧ w'.heap.size = w.heap.size + 3 ∧ Fr (fun _ => False) w w' := by
  go_enter Try.func8, Try.ntmps8
  go_wp2
  refine bodyPost_ret (v := .agg #[.pointer (some ⟨w.heap.size + 2, 0, none⟩)]) (by simp [results, Try.results8, go_sem]) rfl ⟨rfl, ?_, ?_, ?_, (((Fr.refl _ w).alloc _).alloc _).alloc _⟩
  · rw [Below.heap_alloc _ _ _ (by simp)]
    have := heap_alloc_new (w.alloc (Obj.cells #[Value.pointer (some { block := w.heap.size + 1 + 1, off := 0 })] 29)) (Obj.cells #[Value.int IntKind.u64 s1, Value.int IntKind.u64 s2] 51)
    simpa using this
  · exact World.cell?_alloc_at _ _ _ _ (by simp)
  · simp
end Go.Proofs.Qxb6616258a.Pcg
