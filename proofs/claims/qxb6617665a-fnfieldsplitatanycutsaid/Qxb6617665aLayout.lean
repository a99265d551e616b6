/-
  SEAT b6617665a. ZZLayoutField (function 7).
-/
import Derived.Test.Qxb6617665aField
import Derived.StillTailTactics
import Derived.Deep.Cut
import Derived.Deep.CutRange

namespace Go.Proofs.Qxb6617665a.Pre

open Go.RowKit

theorem mixed : Try.prog.follows .mixedOrders = true := by kernel_rfl
theorem info34 : (Try.prog.info? 34).map (fun i => (i.zero, i.size, i.bytes)) = some (some (.agg #[.string ⟨#[]⟩, .string ⟨#[]⟩, .int .i64 0, .int .i64 0, .int .u8 0]), 5, 56) := by kernel_rfl

/-- n cells can be read behind a: cell i is V i. -/
def RdF (w : World) (a : Option Addr) (n : Nat) (V : Nat → Value) : Prop :=
  n = 0 ∨ ∃ b off, a = some ⟨b, off, none⟩ ∧ ∀ i, i < n → w.cell? ⟨b, off + i, none⟩ = some (V i)

theorem RdF.since {w w' : World} {a : Option Addr} {n : Nat} {V : Nat → Value} (h : RdF w a n V) (hf : Below w.heap.size w w') : RdF w' a n V := by
  rcases h with h | ⟨b, off, ha, hc⟩
  · exact .inl h
  · exact .inr ⟨b, off, ha, fun i hi => (hf.cell (World.block_lt_of_cell? _ _ (hc i hi))).trans (hc i hi)⟩

theorem RdF.at {w : World} {a : Option Addr} {n : Nat} {V : Nat → Value} (h : RdF w a n V) {i : Nat} (hi : i < n) : ∃ b off, a = some ⟨b, off, none⟩ ∧ w.cell? ⟨b, off + i, none⟩ = some (V i) := by
  rcases h with h | ⟨b, off, ha, hc⟩
  · omega
  · exact ⟨b, off, ha, hc i hi⟩

theorem RdF.take {w : World} {a : Option Addr} {n k : Nat} {V : Nat → Value} (h : RdF w a n V) (hk : k ≤ n) : RdF w a k V := by
  rcases h with h | ⟨b, off, ha, hc⟩
  · exact .inl (by omega)
  · exact .inr ⟨b, off, ha, fun i hi => hc i (by omega)⟩

theorem RdF.drop {w : World} {b off n k : Nat} {V : Nat → Value} (h : RdF w (some ⟨b, off, none⟩) n V) (hk : k ≤ n) : RdF w (some ⟨b, off + k, none⟩) (n - k) (fun i => V (k + i)) := by
  rcases h with h | ⟨b', off', ha, hc⟩
  · exact .inl (by omega)
  · cases ha
    exact .inr ⟨b, off + k, rfl, fun i hi => by rw [Nat.add_assoc]; exact hc (k + i) (by omega)⟩

theorem RdF.congr {w : World} {a : Option Addr} {n : Nat} {V V' : Nat → Value} (h : RdF w a n V) (e : ∀ i, i < n → V i = V' i) : RdF w a n V' := by
  rcases h with h | ⟨b, off, ha, hc⟩
  · exact .inl h
  · exact .inr ⟨b, off, ha, fun i hi => by rw [hc i hi, e i hi]⟩

/-- The five slices of a layout. -/
structure Five (w : World) (a0 a1 a2 a3 a4 : Option Addr) (n : Nat) (F : Nat → Fd) : Prop where
  r0 : RdF w a0 n (fun i => .string (F i).name)
  r1 : RdF w a1 n (fun i => .string (F i).key)
  r2 : RdF w a2 n (fun i => .int .i64 (F i).start)
  r3 : RdF w a3 n (fun i => .int .i64 (F i).width)
  r4 : RdF w a4 n (fun i => .int .u8 (F i).kind)

theorem Five.since {w w' : World} {a0 a1 a2 a3 a4 : Option Addr} {n : Nat} {F : Nat → Fd} (h : Five w a0 a1 a2 a3 a4 n F) (hf : Below w.heap.size w w') : Five w' a0 a1 a2 a3 a4 n F :=
  ⟨h.r0.since hf, h.r1.since hf, h.r2.since hf, h.r3.since hf, h.r4.since hf⟩

def layC (F : Nat → Fd) (k j : Nat) : Value := if j / 5 < k then cellF (F (j / 5)) (j % 5) else cellF Fd.zero (j % 5)

theorem layC_old (F : Nat → Fd) (k c : Nat) (hc : c < 5) : layC F k (k * 5 + c) = cellF Fd.zero c := by
  unfold layC
  rw [if_neg (by omega), show (k * 5 + c) % 5 = c by omega]

theorem layC_step (F : Nat → Fd) (k j : Nat) :
    (if j = k * 5 + 4 then Value.int .u8 (F k).kind else if j = k * 5 + 3 then Value.int .i64 (F k).width else if j = k * 5 + 2 then Value.int .i64 (F k).start else if j = k * 5 + 1 then Value.string (F k).key else if j = k * 5 then Value.string (F k).name else layC F k j) = layC F (k + 1) j := by
  unfold layC
  by_cases h : j / 5 = k
  · have e : j = k * 5 + j % 5 := by omega
    have hm : j % 5 < 5 := by omega
    rw [if_pos (show j / 5 < k + 1 by omega), h]
    generalize j % 5 = c at e hm
    subst e
    match c, hm with
    | 0, _ => simp [cellF]
    | 1, _ => simp [cellF]
    | 2, _ => simp [cellF]
    | 3, _ => simp [cellF]
    | 4, _ => simp [cellF]
  · rw [if_neg (by omega), if_neg (by omega), if_neg (by omega), if_neg (by omega), if_neg (by omega)]
    by_cases h2 : j / 5 < k
    · rw [if_pos h2, if_pos (by omega)]
    · rw [if_neg h2, if_neg (by omega)]

theorem run_make34 (n : Nat) (hn : n ≤ 1048576) (w : World) :
    (Instr.makeSlice 31 (.int .i64 (n : Int)) (.int .i64 (n : Int))).run Try.prog w = .ok (.slice (some ⟨w.heap.size, 0, none⟩) n n) (w.alloc (.cells (madeCells #[.string ⟨#[]⟩, .string ⟨#[]⟩, .int .i64 0, .int .i64 0, .int .u8 0] (n * 5)) 34)) := by
  obtain ⟨i, hi, hz, hs, hb⟩ := info_parts info34
  have hr := run_make (P := Try.prog) w 31 34 i _ Try.underlying31 hi hz .i64 .i64 n n (by omega) (Int.le_refl _) (by rw [hb]; omega) (by omega)
  simp only [Int.toNat_natCast, hs] at hr
  exact hr

theorem made34 (w : World) (n : Nat) (F : Nat → Fd) : (w.alloc (.cells (madeCells #[.string ⟨#[]⟩, .string ⟨#[]⟩, .int .i64 0, .int .i64 0, .int .u8 0] (n * 5)) 34)).rowIs w.heap.size 34 (n * 5) (layC F 0) := by
  refine ⟨_, heap_alloc_new _ _, size_madeCells _ _, fun j hj => ?_⟩
  unfold layC
  rw [if_neg (by omega)]
  have hm : j % 5 < 5 := by omega
  simp [madeCells, hj]
  match j % 5, hm with
  | 0, _ => rfl
  | 1, _ => rfl
  | 2, _ => rfl
  | 3, _ => rfl
  | 4, _ => rfl

end Go.Proofs.Qxb6617665a.Pre
