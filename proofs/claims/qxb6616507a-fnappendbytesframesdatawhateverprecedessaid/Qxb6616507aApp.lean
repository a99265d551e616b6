/-
  SEAT b6616507a. (littleEndian).AppendUint64 (function 10), appendBytes (9), ZZAppendBytes (5).
-/
import Derived.Test.Qxb6616507aLe

namespace Go.Proofs.Qxb6616507a.Pre

open Go.RowKit

theorem le8_cells (m : Nat) (hm : m < 18446744073709551616) : bl (le8 m) = [Value.int .u8 ((m : Int) % 256), Value.int .u8 ((m : Int) / 256 % 256), Value.int .u8 ((m : Int) / 65536 % 256), Value.int .u8 ((m : Int) / 16777216 % 256), Value.int .u8 ((m : Int) / 4294967296 % 256), Value.int .u8 ((m : Int) / 1099511627776 % 256), Value.int .u8 ((m : Int) / 281474976710656 % 256), Value.int .u8 ((m : Int) / 72057594037927936)] := by
  have e : (m : Int) / 72057594037927936 = (m : Int) / 72057594037927936 % 256 := by omega
  rw [e]
  simp [bl, le8, List.range, List.range.loop]

set_option maxHeartbeats 8000000 in
set_option maxRecDepth 100000 in
theorem app64_any (B n m : Nat) (hm : m < 18446744073709551616) (sv : Value) (xs : List Value) (w : World) (hown : w.ownsRow B 5 1 sv n xs) (hBw : B ≤ w.heap.size) (hlim : n + 8 ≤ 140737488355328) :
    Calls Try.prog 10 #[.agg #[], sv, .int .u64 m] w fun e w' => ∃ v', e = .returned v' ∧ w'.ownsRow B 5 1 v' (n + 8) (xs ++ bl (le8 m)) ∧ Below B w w' := by
  obtain ⟨i0, hi, hz0, hz1, hz2⟩ := info_parts info5
  have hb := le8_cells m hm
  go_enter Try.func10, Try.ntmps10
  go_wp2_with (at_builtin; refine wpList_append_own _ rfl _ _ 22 rfl B 5 i0 (.int .u8 0) 1 1 Try.underlying22 hi hz0 hz1 hz2 rfl (by decide) _ _ _ rfl ((hown.alloc _).alloc _) _ 8 8 [Value.int .u8 ((m : Int) % 256), Value.int .u8 ((m : Int) / 256 % 256), Value.int .u8 ((m : Int) / 65536 % 256), Value.int .u8 ((m : Int) / 16777216 % 256), Value.int .u8 ((m : Int) / 4294967296 % 256), Value.int .u8 ((m : Int) / 1099511627776 % 256), Value.int .u8 ((m : Int) / 281474976710656 % 256), Value.int .u8 ((m : Int) / 72057594037927936)] rfl rfl ?c1 ?c2 ?c3 ?c4 ?c5 ?_)
  case c1 =>
    intro j u hj
    match j, hj with
    | 0, hj => simp at hj; subst hj; simp [Addr.add]
    | 1, hj => simp at hj; subst hj; simp [Addr.add]
    | 2, hj => simp at hj; subst hj; simp [Addr.add]
    | 3, hj => simp at hj; subst hj; simp [Addr.add]
    | 4, hj => simp at hj; subst hj; simp [Addr.add]
    | 5, hj => simp at hj; subst hj; simp [Addr.add]
    | 6, hj => simp at hj; subst hj; simp [Addr.add]
    | 7, hj => simp at hj; subst hj; simp [Addr.add]
  case c2 => intro u hu; simp at hu; rcases hu with rfl | rfl | rfl | rfl | rfl | rfl | rfl | rfl <;> rfl
  case c3 => unfold maxLen; omega
  case c4 => omega
  case c5 => simp; omega
  intro v' w2 hown' hgrow _
  go_wp2
  go_ret
  refine ⟨v', rfl, by rw [hb]; exact hown', ?_⟩
  exact ((((Below.refl B w).alloc hBw _).alloc (by simp; omega) _).grown hgrow (by simp; omega) (fun k hk => (hown.lt k hk).1))

set_option maxHeartbeats 2000000 in
theorem appb_some (B n m c : Nat) (x : Addr) (zs : List Int) (hz : zs.length = m) (hn : n ≤ 4194304) (hm : m ≤ 4194304) (sv : Value) (xs : List Value) (w : World) (hown : w.ownsRow B 5 1 sv n xs) (hBw : B ≤ w.heap.size)
    (hrd : Rd w (some x) (bl zs)) (hx : 0 < m → x.block < B) :
    Calls Try.prog 9 #[sv, .slice (some x) m c] w fun e w' => ∃ v', e = .returned v' ∧ w'.ownsRow B 5 1 v' (n + 8 + m) (xs ++ (bl (le8 m) ++ bl zs)) ∧ Below B w w' := by
  obtain ⟨i0, hi, hz0, hz1, hz2⟩ := info_parts info5
  have hA := app64_any B n m (by omega) sv xs w hown hBw (by omega)
  go_enter Try.func9, Try.ntmps9
  go_wp2_with fail
  refine hA.mono ?_
  rintro e w2 ⟨v2, rfl, hown2, bel2⟩
  have hsz := bel2.size
  have hnews : ∀ j u, (bl zs)[j]? = some u → w2.cell? (x.add j) = some u := by
    intro j u hu
    obtain ⟨b, off, hb, hc⟩ := hrd.at hu
    obtain rfl := Option.some.inj hb
    rw [add_pl]
    have hj := (List.getElem?_eq_some_iff.1 hu).1
    rw [bl_length] at hj
    have hlt : b < B := hx (by omega)
    exact (World.cell?_of_block (w := w) (a := ⟨b, off + j, none⟩) (bel2.block b hlt)).trans hc
  clear hA hrd
  go_wp2_with (at_builtin; refine wpList_append_own _ rfl _ _ 22 rfl B 5 i0 (.int .u8 0) 1 1 Try.underlying22 hi hz0 hz1 hz2 rfl (by decide) _ _ _ rfl hown2 x m c (bl zs) rfl (by rw [bl_length]; omega) hnews (bl_one zs) (by unfold maxLen; omega) (by omega) (by omega) ?_)
  intro v3 w3 hown3 hgrow3 _
  go_wp2
  go_ret
  exact ⟨v3, rfl, hown3, bel2.grown hgrow3 (by omega) (fun k hk => (hown2.lt k hk).1)⟩

set_option maxHeartbeats 2000000 in
theorem appb_none (B n : Nat) (hn : n ≤ 4194304) (sv : Value) (xs : List Value) (w : World) (hown : w.ownsRow B 5 1 sv n xs) (hBw : B ≤ w.heap.size) :
    Calls Try.prog 9 #[sv, .slice none 0 0] w fun e w' => ∃ v', e = .returned v' ∧ w'.ownsRow B 5 1 v' (n + 8) (xs ++ bl (le8 0)) ∧ Below B w w' := by
  obtain ⟨i0, hi, hz0, hz1, hz2⟩ := info_parts info5
  have hA := app64_any B n 0 (by omega) sv xs w hown hBw (by omega)
  go_enter Try.func9, Try.ntmps9
  go_wp2_with fail
  refine hA.mono ?_
  rintro e w2 ⟨v2, rfl, hown2, bel2⟩
  clear hA
  go_wp2_with (at_builtin; refine wpList_append_own_none rfl _ _ 22 rfl B 5 i0 1 Try.underlying22 hi v2 _ _ rfl hown2 rfl ?_)
  go_ret
  exact ⟨v2, rfl, hown2, bel2⟩

set_option maxHeartbeats 2000000 in
theorem app_any (B n m c : Nat) (a : Option Addr) (zs : List Int) (hz : zs.length = m) (hn : n ≤ 4194304) (hm : m ≤ 4194304) (sv : Value) (xs : List Value) (w : World) (hown : w.ownsRow B 5 1 sv n xs) (hBw : B ≤ w.heap.size)
    (hrd : Rd w a (bl zs)) (hx : ∀ x : Addr, a = some x → 0 < m → x.block < B) (hnil : a = none → m = 0 ∧ c = 0) :
    Calls Try.prog 5 #[sv, .slice a m c] w fun e w' => ∃ v', e = .returned v' ∧ w'.ownsRow B 5 1 v' (n + 8 + m) (xs ++ (bl (le8 m) ++ bl zs)) ∧ Below B w w' := by
  have hC : Calls Try.prog 9 #[sv, .slice a m c] w fun e w' => ∃ v', e = .returned v' ∧ w'.ownsRow B 5 1 v' (n + 8 + m) (xs ++ (bl (le8 m) ++ bl zs)) ∧ Below B w w' := by
    cases a with
    | none =>
      obtain ⟨rfl, rfl⟩ := hnil rfl
      obtain rfl : zs = [] := List.eq_nil_of_length_eq_zero hz
      refine (appb_none B n hn sv xs w hown hBw).mono ?_
      rintro e w' ⟨v', rfl, h1, h2⟩
      exact ⟨v', rfl, by simpa [bl] using h1, h2⟩
    | some x => exact appb_some B n m c x zs hz hn hm sv xs w hown hBw hrd (hx x rfl)
  clear hrd hown
  go_enter Try.func5, Try.ntmps5
  go_wp2_with fail
  refine hC.mono ?_
  rintro e w2 ⟨v2, rfl, hown2, bel2⟩
  go_wp2
  go_ret
  exact ⟨v2, rfl, hown2, bel2⟩

end Go.Proofs.Qxb6616507a.Pre
