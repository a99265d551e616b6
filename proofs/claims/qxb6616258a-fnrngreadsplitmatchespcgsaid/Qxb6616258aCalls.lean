/- SEAT b6616258a. The contracts as the two laws take them. -/
import Derived.Test.Qxb6616258aRead

namespace Go.Proofs.Qxb6616258a.Pcg

open Go.RowKit

theorem clone_any (a : Option Addr) (n c : Nat) (f : Nat → Int) (hn : n ≤ 1048576) (hnil : a = none → n = 0) (w : World) (hrd : Rd w a n f) :
    Calls Try.prog 6 #[.slice a n c] w fun e w' => ∃ a' c', e = .returned (.slice a' n c') ∧ Buf w' w.heap.size a' n c' f ∧ (a' = none → n = 0) ∧ Below w.heap.size w w' := by
  cases a with
  | none =>
    obtain rfl := hnil rfl
    refine (clone_nil 0 c w).mono ?_
    rintro e w' ⟨rfl, rfl⟩
    exact ⟨none, 0, rfl, .inl rfl, fun _ => rfl, Below.refl _ _⟩
  | some x =>
    refine (clone_some x n c f hn w hrd).mono ?_
    rintro e w' ⟨rfl, hr, hb⟩
    exact ⟨_, n, rfl, .inr ⟨rfl, rfl, hr⟩, (fun h => by cases h), hb⟩

set_option maxHeartbeats 1000000 in
theorem read_none (r : Nat) (a : Option Addr) (c : Nat) (w : World) :
    Calls Try.prog 15 #[.agg #[.pointer (some ⟨r, 0, none⟩)], .slice a 0 c] w fun e w' => e = .returned (.tuple #[.int .i64 0, .nilIface]) ∧ Fr (fun _ => False) w w' := by
  go_enter Try.func15, Try.ntmps15
  go_wp2
  go_loopw [6] (fun i wr => i = .int .i64 0 ∧ Fr (fun _ => False) w wr) (fun i _ => 0)
  case atStart => exact ⟨rfl, (Fr.refl _ _).alloc _⟩
  case round =>
    obtain ⟨rfl, hf⟩ := hrel
    go_wp2
    go_ret2
    exact ⟨rfl, hf⟩

theorem read_any (r p g : Nat) (a : Option Addr) (n c : Nat) (hi lo : Int) (z : Nat → Int) (hn : n ≤ 1048576) (l1 : 0 ≤ lo) (l2 : lo < 18446744073709551616) (w : World)
    (hp : w.heap[p]? = some (.cells #[.int .u64 hi, .int .u64 lo] 51 (0, 0))) (hr : w.cell? ⟨r, 0, none⟩ = some (.iface 41 (.pointer (some ⟨p, 0, none⟩))))
    (hb : Buf w g a n c z) (hrp : r ≠ p) (hne : 0 < n → g ≠ p ∧ r ≠ g) :
    Calls Try.prog 15 #[.agg #[.pointer (some ⟨r, 0, none⟩)], .slice a n c] w fun e w' => e = .returned (.tuple #[.int .i64 n, .nilIface]) ∧
      w'.heap[p]? = some (.cells #[.int .u64 (st hi lo ((n + 7) / 8)).1, .int .u64 (st hi lo ((n + 7) / 8)).2] 51 (0, 0)) ∧ Buf w' g a n c (byteAt hi lo) ∧ Fr (fun k => k = p ∨ (k = g ∧ 0 < n)) w w' := by
  by_cases h0 : n = 0
  · subst h0
    refine (read_none r a c w).mono ?_
    rintro e w' ⟨rfl, hf⟩
    exact ⟨rfl, hf.keep hp (fun h => h), .inl rfl, hf.mono (fun _ _ h => h.elim)⟩
  · rcases hb with h | ⟨rfl, rfl, hrow⟩
    · exact absurd h h0
    · obtain ⟨hgp, hrg⟩ := hne (by omega)
      refine (read_some r p g _ hi lo z hn l1 l2 w hp hr hrow hgp hrp hrg).mono ?_
      rintro e w' ⟨rfl, hp', hrow', hf⟩
      exact ⟨rfl, hp', .inr ⟨rfl, rfl, hrow'⟩, hf.mono (fun _ _ h => by omega)⟩

set_option maxHeartbeats 1000000 in
theorem rng_any (r p g : Nat) (a : Option Addr) (n c : Nat) (hi lo : Int) (z : Nat → Int) (hn : n ≤ 1048576) (l1 : 0 ≤ lo) (l2 : lo < 18446744073709551616) (w : World)
    (hp : w.heap[p]? = some (.cells #[.int .u64 hi, .int .u64 lo] 51 (0, 0))) (hr : w.cell? ⟨r, 0, none⟩ = some (.iface 41 (.pointer (some ⟨p, 0, none⟩))))
    (hb : Buf w g a n c z) (hrp : r ≠ p) (hne : 0 < n → g ≠ p ∧ r ≠ g) :
    Calls Try.prog 9 #[.agg #[.pointer (some ⟨r, 0, none⟩)], .slice a n c] w fun e w' => e = .returned (.tuple #[.int .i64 n, .nilIface]) ∧
      w'.heap[p]? = some (.cells #[.int .u64 (st hi lo ((n + 7) / 8)).1, .int .u64 (st hi lo ((n + 7) / 8)).2] 51 (0, 0)) ∧ Buf w' g a n c (byteAt hi lo) ∧ Fr (fun k => k = p ∨ (k = g ∧ 0 < n)) w w' := by
  have hC := read_any r p g a n c hi lo z hn l1 l2 (w.alloc (.cells #[.pointer (some ⟨r, 0, none⟩)] 29)) (((Fr.refl (fun _ => False) w).alloc _).keep hp (fun h => h))
    ((Below.cell ((Below.refl w.heap.size w).alloc (Nat.le_refl _) _) (World.block_lt_of_cell? _ _ hr)).trans hr) (hb.keep ((Fr.refl (fun _ => False) w).alloc _) (fun h => h)) hrp hne
  clear hp hr hb
  go_enter Try.func9, Try.ntmps9
  go_wp2_with (go_at_call 15; refine hC.mono ?_; rintro e w' ⟨rfl, hp', hb', hf'⟩)
  go_ret2
  exact ⟨rfl, hp', hb', ((Fr.refl _ w).alloc _).trans hf' (fun _ _ h => h)⟩

theorem new_ex (s1 s2 : Int) (w : World) :
    Calls Try.prog 8 #[.int .u64 s1, .int .u64 s2] w fun e w' => ∃ p r, e = .returned (.agg #[.pointer (some ⟨r, 0, none⟩)]) ∧ w.heap.size ≤ p ∧ w.heap.size ≤ r ∧ r ≠ p ∧ w'.heap[p]? = some (.cells #[.int .u64 s1, .int .u64 s2] 51 (0, 0)) ∧
      w'.cell? ⟨r, 0, none⟩ = some (.iface 41 (.pointer (some ⟨p, 0, none⟩))) ∧ Fr (fun _ => False) w w' := by
  refine (new_any s1 s2 w).mono ?_
  rintro e w' ⟨rfl, h1, h2, _, h3⟩
  exact ⟨_, _, rfl, by omega, by omega, by omega, h1, h2, h3⟩

theorem Fr.cell {S : Nat → Prop} {w w' : World} {a : Addr} {v : Value} (h : Fr S w w') (hc : w.cell? a = some v) (hS : ¬ S a.block) : w'.cell? a = some v :=
  (World.cell?_of_block (w := w) (h.block a.block (World.block_lt_of_cell? _ _ hc) hS)).trans hc

theorem Buf.lt {w : World} {g : Nat} {a : Option Addr} {n c : Nat} {f : Nat → Int} (h : Buf w g a n c f) (hn : 0 < n) : g < w.heap.size := by
  rcases h with h | ⟨_, _, hr⟩
  · omega
  · exact hr.lt

theorem Buf.rd_take {w : World} {g : Nat} {a : Option Addr} {n c k : Nat} {f : Nat → Int} (h : Buf w g a n c f) (hk : k ≤ n) : Rd w a k f := by
  rcases h with h | ⟨h, _, hr⟩
  · exact .inl (by omega)
  · exact .inr ⟨g, 0, h, fun i hi => by rw [Nat.zero_add]; exact hr.cell (by omega)⟩

theorem Buf.rd_drop {w : World} {g : Nat} {a : Option Addr} {n c k : Nat} {f : Nat → Int} (h : Buf w g a n c f) (hk : k ≤ n) : Rd w (some ⟨g, k, none⟩) (n - k) (fun i => f (k + i)) := by
  rcases h with h | ⟨_, _, hr⟩
  · exact .inl (by omega)
  · exact .inr ⟨g, k, rfl, fun i hi => hr.cell (by omega)⟩

end Go.Proofs.Qxb6616258a.Pcg
