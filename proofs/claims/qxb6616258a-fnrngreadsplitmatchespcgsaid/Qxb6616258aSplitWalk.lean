/- SEAT b6616258a. The walk of the first law: one read against two. -/
import Derived.Test.Qxb6616258aBytes

namespace Go.Proofs.Qxb6616258a.Split

open Go.RowKit Go.Proofs.Qxb6616258a.Pcg

theorem st_add (hi lo : Int) (q : Nat) : ∀ k, st (st hi lo q).1 (st hi lo q).2 k = st hi lo (q + k)
  | 0 => rfl
  | k + 1 => by rw [show q + (k + 1) = (q + k) + 1 by omega]; simp only [st]; rw [st_add hi lo q k]

theorem byteAt_add (hi lo : Int) (q j : Nat) : byteAt (st hi lo q).1 (st hi lo q).2 j = byteAt hi lo (8 * q + j) := by
  unfold byteAt
  rw [st_add, show (8 * q + j) / 8 = q + j / 8 by omega, show (8 * q + j) % 8 = j % 8 by omega]

set_option maxHeartbeats 4000000 in
set_option maxRecDepth 100000 in
theorem main_some (s1 s2 : Int) (l1 : 0 ≤ s2) (l2 : s2 < 18446744073709551616) (x : Addr) (q m c : Nat) (f : Nat → Int) (w : World)
    (ha : Rd w (some x) (8 * q + m) f) (hn : 8 * q + m ≤ 65536) :
    Calls Try.prog 3 #[.int .u64 s1, .int .u64 s2, .slice (some x) (8 * q + m) c, .int .i64 (8 * q : Nat)] w fun e w' => e = .returned (.bool true) ∧ Below w.heap.size w w' := by
  have i1 : ¬ ((1048576 : Int) < 8 * (q : Int) + (m : Int)) := by omega
  have i2 : ¬ ((65536 : Int) < 8 * (q : Int) + (m : Int)) := by omega
  have i3 : ¬ (8 * (q : Int) < 0) := by omega
  have i4 : ¬ (8 * (q : Int) + (m : Int) < 8 * (q : Int)) := by omega
  have i5 : (8 * (q : Int)) % 8 = 0 := by omega
  go_enter Try.func3, Try.ntmps3
  go_wp2_with (first | (go_at_call 5; go_in))
  have hk1 : 8 * (q : Int) ≤ 8 * (q : Int) + (m : Int) := by omega
  have hk0 : (0 : Int) ≤ 8 * (q : Int) := by omega
  have hkt : (8 * (q : Int)).toNat = 8 * q := by omega
  have hkm : 8 * q + m - 8 * q = m := by omega
  refine (clone_some x (8 * q + m) c f (by omega) _ ha).mono ?_
  rintro e w1 ⟨rfl, R1, bel1⟩
  clear i1 i2 i3 i4 i5 ha
  have c1 : ∀ k, k ≤ 8 * q + m → Rd w1 (some ⟨w.heap.size, 0, none⟩) k f := fun k hk => .inr ⟨w.heap.size, 0, rfl, fun i hi => by rw [Nat.zero_add]; exact R1.cell (by omega)⟩
  go_wp2_with fail
  refine (clone_some _ (8 * q + m) (8 * q + m) f (by omega) _ (c1 _ (Nat.le_refl _))).mono ?_
  rintro e w2 ⟨rfl, R2, bel2⟩
  have c2 : ∀ k, k ≤ 8 * q + m → Rd w2 (some ⟨w.heap.size, 0, none⟩) k f := fun k hk => (c1 k hk).keep (Fr.of_below bel2 (fun _ => False)) (fun _ _ _ h => h)
  go_wp2_with fail
  refine (clone_some _ (8 * q) (8 * q + m) f (by omega) _ (c2 _ (by omega))).mono ?_
  rintro e w3 ⟨rfl, R3, bel3⟩
  have g3 : w3.rowIs w.heap.size 5 (8 * q + m) (fun i => .int .u8 (f i)) := R1.of_block ((bel3.block _ (Nat.lt_of_lt_of_le R1.lt bel2.size)).trans (bel2.block _ R1.lt))
  have c3 : Rd w3 (some ⟨w.heap.size, 8 * q, none⟩) m (fun i => f (8 * q + i)) := .inr ⟨w.heap.size, 8 * q, rfl, fun i hi => g3.cell (by omega)⟩
  clear c1 c2
  go_upto_region 10 with fail
  go_cut [11] from 51 to 54 (fun v wx => v = .slice (some ⟨w3.heap.size, 0, none⟩) m m ∧ (∃ fr : Nat → Int, wx.rowIs w3.heap.size 5 m (fun i => .int .u8 (fr i))) ∧ Below w3.heap.size w3 wx)
  case first =>
    by_cases hm0 : m = 0
    · subst hm0
      go_wp2_with fail
      refine (clone_some _ 0 _ (fun _ => 0) (by omega) _ (.inl rfl)).mono ?_
      rintro e w4 ⟨rfl, R4, bel4⟩
      go_wp2_with fail
      go_meet
      exact ⟨rfl, ⟨_, R4⟩, bel4⟩
    · go_wp2_with fail
      refine (clone_some _ m _ _ (by omega) _ c3).mono ?_
      rintro e w4 ⟨rfl, R4, bel4⟩
      go_wp2_with fail
      go_meet
      exact ⟨rfl, ⟨_, R4⟩, bel4⟩
  case rest =>
    obtain ⟨rfl, ⟨fr, R4⟩, bel4⟩ := hcut
    clear c3 g3
    have hBy := bytes_any s1 s2 (8 * q + m) (by omega) l1 l2 wc
    rw [show ((8 * q + m : Nat) : Int) = 8 * (q : Int) + (m : Int) by omega] at hBy
    go_wp2_with fail
    refine hBy.mono ?_
    rintro e w5 ⟨rfl, R5, hf5⟩
    clear hBy
    have s01 := R1.lt
    have s12 := R2.lt
    have s23 := R3.lt
    have s34 := R4.lt
    have s45 := R5.lt
    have bel03 := (bel1.trans (bel2.mono bel1.size)).trans (bel3.mono (by have := bel1.size; have := bel2.size; omega))
    have bel04 := bel03.trans (bel4.mono bel03.size)
    have bel05 := bel04.trans (hf5.below (B := w.heap.size) bel04.size (fun k hk h => h))
    have A5 : w5.rowIs w1.heap.size 5 (8 * q + m) (fun i => .int .u8 (f i)) := R2.of_block ((hf5.block _ (by omega) (fun h => h)).trans ((bel4.block _ (by omega)).trans (bel3.block _ (by omega))))
    have F5 : w5.rowIs w2.heap.size 5 (8 * q) (fun i => .int .u8 (f i)) := R3.of_block ((hf5.block _ (by omega) (fun h => h)).trans (bel4.block _ (by omega)))
    have T5 : w5.rowIs w3.heap.size 5 m (fun i => .int .u8 (fr i)) := R4.of_block (hf5.block _ (by omega) (fun h => h))
    clear R1 R2 R3 R4 bel1 bel2 bel3 bel4 hf5 bel03 bel04
    go_wp2_with fail
    refine (new_ex s1 s2 _).mono ?_
    rintro e w6 ⟨p, r, rfl, hpw, hrw, hrp, hp6, hr6, hf6⟩
    have hf56 := hf6.alloc (.cells #[.pointer (some ⟨r, 0, none⟩)] 29)
    have hf66 := (Fr.refl (fun _ => False) w6).alloc (.cells #[.pointer (some ⟨r, 0, none⟩)] 29)
    have hRd := rng_any r p w1.heap.size (some ⟨w1.heap.size, 0, none⟩) (8 * q + m) (8 * q + m) s1 s2 f (by omega) l1 l2 _ (hf66.keep hp6 (fun h => h)) (hf66.cell hr6 (fun h => h)) (.inr ⟨rfl, rfl, A5.of_block (hf56.block _ (by omega) (fun h => h))⟩) hrp (fun h => by omega)
    have F6 := F5.of_block (hf56.block _ (by omega) (fun h => h))
    have T6 := T5.of_block (hf56.block _ (by omega) (fun h => h))
    have Y6 := R5.of_block (hf56.block _ (by omega) (fun h => h))
    clear A5 F5 T5 R5
    go_wp2_with fail
    refine hRd.mono ?_
    rintro e w7 ⟨rfl, _, A7, f67⟩
    have s56 := hf6.size
    have s67 := f67.size
    simp only [World.size_alloc] at s67
    have F7 := F6.of_block (f67.block _ (by simp; omega) (fun h => by omega))
    have T7 := T6.of_block (f67.block _ (by simp; omega) (fun h => by omega))
    have Y7 := Y6.of_block (f67.block _ (by simp; omega) (fun h => by omega))
    have bel06 := bel05.trans (hf56.below (B := w.heap.size) (by omega) (fun k hk h => h))
    have bel07 := bel06.trans (f67.below (B := w.heap.size) (by simp; omega) (fun k hk h => by omega))
    clear hRd F6 T6 Y6 hp6 hr6 hf6 hf56 hf66 bel05 bel06 f67
    go_wp2_with fail
    refine (new_ex s1 s2 _).mono ?_
    rintro e w8 ⟨p', r', rfl, hpw', hrw', hrp', hp8, hr8, hf8⟩
    have hf78 := hf8.alloc (.cells #[.pointer (some ⟨r', 0, none⟩)] 29)
    have hf88 := (Fr.refl (fun _ => False) w8).alloc (.cells #[.pointer (some ⟨r', 0, none⟩)] 29)
    have A8 := A7.keep hf78 (fun h => h)
    have F8 := F7.of_block (hf78.block _ (by omega) (fun h => h))
    have T8 := T7.of_block (hf78.block _ (by omega) (fun h => h))
    have Y8 := Y7.of_block (hf78.block _ (by omega) (fun h => h))
    have V8 : (w8.alloc (.cells #[.pointer (some ⟨r', 0, none⟩)] 29)).cell? ⟨w8.heap.size, 0, none⟩ = some (.pointer (some ⟨r', 0, none⟩)) := World.cell?_alloc_at _ _ _ _ rfl
    have R8 := hf88.cell hr8 (fun h => h)
    have hpl := lt_of_heap hp8
    have hrl := World.block_lt_of_cell? _ _ hr8
    have hRd2 := rng_any r' p' w2.heap.size (some ⟨w2.heap.size, 0, none⟩) (8 * q) (8 * q) s1 s2 f (by omega) l1 l2 _ (hf88.keep hp8 (fun h => h)) R8 (.inr ⟨rfl, rfl, F8⟩) hrp' (fun h => by omega)
    clear A7 F7 T7 Y7 F8
    go_wp2_with fail
    refine hRd2.mono ?_
    rintro e w9 ⟨rfl, P9, F9, f89⟩
    rw [show (8 * q + 7) / 8 = q by omega] at P9
    have s78 := hf8.size
    have s89 := f89.size
    simp only [World.size_alloc] at s89
    have V9 := f89.cell V8 (fun h => by simp only at h; omega)
    have R9 := f89.cell R8 (fun h => by simp only at h; omega)
    have A9 := A8.keep f89 (fun h => by omega)
    have T9 := T8.of_block (f89.block _ (by simp; omega) (fun h => by omega))
    have Y9 := Y8.of_block (f89.block _ (by simp; omega) (fun h => by omega))
    have bel08 := bel07.trans (hf78.below (B := w.heap.size) (by omega) (fun k hk h => h))
    have bel09 := bel08.trans (f89.below (B := w.heap.size) (by simp; omega) (fun k hk h => by omega))
    have hst := st_range s1 s2 l1 l2 q
    have hRd3 := rng_any r' p' w3.heap.size (some ⟨w3.heap.size, 0, none⟩) m m _ _ fr (by omega) hst.1 hst.2 w9 P9 R9 (.inr ⟨rfl, rfl, T9⟩) hrp' (fun h => by omega)
    clear hRd2 V8 R8 A8 T8 Y8 hp8 hr8 hf8 hf78 hf88 bel07 bel08 f89 P9 T9
    go_wp2_with fail
    refine hRd3.mono ?_
    rintro e w10 ⟨rfl, _, T10, f90⟩
    have A10 := A9.keep f90 (fun h => by omega)
    have F10 := F9.keep f90 (fun h => by omega)
    have Y10 := Y9.of_block (f90.block _ (by omega) (fun h => by omega))
    have hBel : ∀ x2, Below w.heap.size w (w10.drewN x2) := fun x2 => bel09.trans ((f90.drewN x2).below (B := w.heap.size) (by omega) (fun k hk h => by omega))
    clear hRd3 V9 R9 A9 F9 Y9 bel09 f90
    have e1 : ((8 * (q : Int) + (m : Int)) != (8 * (q : Int) + (m : Int))) = false := by simp
    have e2 : ((8 * (q : Int)) != (8 * (q : Int))) = false := by simp
    have e3 : (m : Int) = 8 * (q : Int) + (m : Int) - 8 * (q : Int) := by omega
    have e4 : ((m : Int) != 8 * (q : Int) + (m : Int) - 8 * (q : Int)) = false := by rw [← e3]; simp
    clear e3
    go_wp2_with fail
    have YB : Buf w10 wc.heap.size (some ⟨wc.heap.size, 0, none⟩) (8 * q + m) (8 * q + m) (byteAt s1 s2) := .inr ⟨rfl, rfl, Y10⟩
    refine (equal_true _ _ (8 * q + m) (8 * q + m) (8 * q + m) (byteAt s1 s2) (by omega) w10 A10.rd YB.rd).mono ?_
    rintro e w11 ⟨rfl, x1, rfl⟩
    have F11 := F10.rd.keep ((Fr.refl (fun _ => False) w10).drewN x1) (fun _ _ _ h => h)
    have Y11 : Rd (w10.drewN x1) (some ⟨wc.heap.size, 0, none⟩) (8 * q) (byteAt s1 s2) := (YB.rd_take (k := 8 * q) (by omega)).keep ((Fr.refl (fun _ => False) w10).drewN x1) (fun _ _ _ h => h)
    go_wp2_with fail
    refine (equal_true _ _ (8 * q) (8 * q) _ (byteAt s1 s2) (by omega) _ F11 Y11).mono ?_
    rintro e w12 ⟨rfl, x2, rfl⟩
    have T12 := T10.rd.keep ((Fr.refl (fun _ => False) w10).drewN (x1 + x2)) (fun _ _ _ h => h)
    have Y12 : Rd (w10.drewN (x1 + x2)) (some ⟨wc.heap.size, 8 * q, none⟩) m (byteAt (st s1 s2 q).1 (st s1 s2 q).2) := by
      have h := YB.rd_drop (k := 8 * q) (by omega)
      rw [show 8 * q + m - 8 * q = m by omega] at h
      rw [show (fun i => byteAt s1 s2 (8 * q + i)) = byteAt (st s1 s2 q).1 (st s1 s2 q).2 from funext fun j => (byteAt_add s1 s2 q j).symm] at h
      exact h.keep ((Fr.refl (fun _ => False) w10).drewN (x1 + x2)) (fun _ _ _ h => h)
    by_cases hm0 : m = 0
    · subst hm0
      go_wp2_with fail
      refine (equal_true _ _ 0 _ _ (fun _ => 0) (by omega) _ (.inl rfl) (.inl rfl)).mono ?_
      rintro e w13 ⟨rfl, x3, rfl⟩
      go_wp2
      go_ret
      exact ⟨rfl, hBel _⟩
    · go_wp2_with fail
      refine (equal_true _ _ m _ _ _ (by omega) _ T12 Y12).mono ?_
      rintro e w13 ⟨rfl, x3, rfl⟩
      go_wp2
      go_ret
      exact ⟨rfl, hBel _⟩

set_option maxHeartbeats 4000000 in
set_option maxRecDepth 100000 in
theorem main_nil (s1 s2 : Int) (l1 : 0 ≤ s2) (l2 : s2 < 18446744073709551616) (w : World) :
    Calls Try.prog 3 #[.int .u64 s1, .int .u64 s2, .slice none 0 0, .int .i64 0] w fun e w' => e = .returned (.bool true) ∧ Below w.heap.size w w' := by
  go_enter Try.func3, Try.ntmps3
  go_wp2_with (first | (go_at_call 5; go_in))
  refine (clone_nil 0 0 w).mono ?_
  rintro e w1 ⟨rfl, rfl⟩
  go_wp2_with (go_at_call 6; refine (clone_nil 0 0 _).mono ?_; rintro e w2 ⟨rfl, rfl⟩)
  refine (bytes_any s1 s2 0 (by omega) l1 l2 _).mono ?_
  rintro e w5 ⟨rfl, R5, hf5⟩
  have bel05 := hf5.below (B := w2.heap.size) (Nat.le_refl _) (fun k hk h => h)
  clear hf5
  go_wp2_with fail
  refine (new_ex s1 s2 _).mono ?_
  rintro e w6 ⟨p, r, rfl, hpw, hrw, hrp, hp6, hr6, hf6⟩
  have hf66 := (Fr.refl (fun _ => False) w6).alloc (.cells #[.pointer (some ⟨r, 0, none⟩)] 29)
  have bel06 := bel05.trans ((hf6.alloc (.cells #[.pointer (some ⟨r, 0, none⟩)] 29)).below (B := w2.heap.size) bel05.size (fun k hk h => h))
  have hRd := rng_any r p 0 none 0 0 s1 s2 (fun _ => 0) (by omega) l1 l2 _ (hf66.keep hp6 (fun h => h)) (hf66.cell hr6 (fun h => h)) (.inl rfl) hrp (fun h => absurd h (Nat.lt_irrefl _))
  have s5 := R5.lt
  clear R5 hp6 hr6 hf66
  go_wp2_with fail
  refine hRd.mono ?_
  rintro e w7 ⟨rfl, _, _, f67⟩
  have s56 := hf6.size
  have bel07 := bel06.trans (f67.below (B := w2.heap.size) bel06.size (fun k hk h => by omega))
  clear hRd bel05 bel06 f67 hf6
  go_wp2_with fail
  refine (new_ex s1 s2 _).mono ?_
  rintro e w8 ⟨p', r', rfl, hpw', hrw', hrp', hp8, hr8, hf8⟩
  have hf88 := (Fr.refl (fun _ => False) w8).alloc (.cells #[.pointer (some ⟨r', 0, none⟩)] 29)
  have bel08 := bel07.trans ((hf8.alloc (.cells #[.pointer (some ⟨r', 0, none⟩)] 29)).below (B := w2.heap.size) bel07.size (fun k hk h => h))
  have V8 : (w8.alloc (.cells #[.pointer (some ⟨r', 0, none⟩)] 29)).cell? ⟨w8.heap.size, 0, none⟩ = some (.pointer (some ⟨r', 0, none⟩)) := World.cell?_alloc_at _ _ _ _ rfl
  have R8 := hf88.cell hr8 (fun h => h)
  have hRd2 := rng_any r' p' 0 none 0 0 s1 s2 (fun _ => 0) (by omega) l1 l2 _ (hf88.keep hp8 (fun h => h)) R8 (.inl rfl) hrp' (fun h => absurd h (Nat.lt_irrefl _))
  have hpl := lt_of_heap hp8
  have hrl := World.block_lt_of_cell? _ _ hr8
  go_wp2_with fail
  refine hRd2.mono ?_
  rintro e w9 ⟨rfl, P9, _, f89⟩
  have V9 := f89.cell V8 (fun h => by simp only at h; omega)
  have R9 := f89.cell R8 (fun h => by simp only at h; omega)
  have s7 := bel07.size
  have bel09 := bel08.trans (f89.below (B := w2.heap.size) bel08.size (fun k hk h => by omega))
  have hRd3 := rng_any r' p' 0 none 0 0 _ _ (fun _ => 0) (by omega) l1 l2 w9 P9 R9 (.inl rfl) hrp' (fun h => absurd h (Nat.lt_irrefl _))
  clear hRd2 V8 R8 hp8 hr8 hf88 bel07 bel08
  go_wp2_with fail
  refine hRd3.mono ?_
  rintro e w10 ⟨rfl, _, _, f90⟩
  have hBel : ∀ x2, Below w2.heap.size w2 (w10.drewN x2) := fun x2 => bel09.trans ((f90.drewN x2).below (B := w2.heap.size) bel09.size (fun k hk h => by omega))
  clear hRd3 V9 R9 bel09 f90
  go_wp2_with (go_at_call 10; refine (equal_true _ _ 0 _ _ (fun _ => 0) (by omega) _ (.inl rfl) (.inl rfl)).mono ?_; rintro e w11 ⟨rfl, x1, rfl⟩)
  go_ret
  exact ⟨rfl, hBel _⟩

/-! ### The early exits. -/

theorem guard1 (s1 s2 : Int) (a : Option Addr) (n c : Nat) (z : Int) (w : World) (h1 : 1048576 < n) :
    Calls Try.prog 3 #[.int .u64 s1, .int .u64 s2, .slice a n c, .int .i64 z] w fun e w' => e = .returned (.bool true) ∧ Below w.heap.size w w' := by
  have i1 : (1048576 : Int) < (n : Int) := by omega
  go_enter Try.func3, Try.ntmps3
  go_wp2_with (first | (go_at_call 5; go_in))
  go_ret
  exact ⟨rfl, Below.refl _ _⟩

theorem guard2 (s1 s2 : Int) (a : Option Addr) (n c : Nat) (z : Int) (w : World) (h1 : n ≤ 1048576) (h2 : 65536 < n) :
    Calls Try.prog 3 #[.int .u64 s1, .int .u64 s2, .slice a n c, .int .i64 z] w fun e w' => e = .returned (.bool true) ∧ Below w.heap.size w w' := by
  have i1 : ¬ (1048576 : Int) < (n : Int) := by omega
  have i2 : (65536 : Int) < (n : Int) := by omega
  go_enter Try.func3, Try.ntmps3
  go_wp2_with (first | (go_at_call 5; go_in))
  go_ret
  exact ⟨rfl, Below.refl _ _⟩

theorem guard3 (s1 s2 : Int) (a : Option Addr) (n c : Nat) (z : Int) (w : World) (h2 : n ≤ 65536) (h3 : z < 0) :
    Calls Try.prog 3 #[.int .u64 s1, .int .u64 s2, .slice a n c, .int .i64 z] w fun e w' => e = .returned (.bool true) ∧ Below w.heap.size w w' := by
  have i1 : ¬ (1048576 : Int) < (n : Int) := by omega
  have i2 : ¬ (65536 : Int) < (n : Int) := by omega
  go_enter Try.func3, Try.ntmps3
  go_wp2_with (first | (go_at_call 5; go_in))
  go_ret
  exact ⟨rfl, Below.refl _ _⟩

theorem guard4 (s1 s2 : Int) (a : Option Addr) (n c : Nat) (z : Int) (w : World) (h2 : n ≤ 65536) (h3 : ¬ z < 0) (h4 : (n : Int) < z) :
    Calls Try.prog 3 #[.int .u64 s1, .int .u64 s2, .slice a n c, .int .i64 z] w fun e w' => e = .returned (.bool true) ∧ Below w.heap.size w w' := by
  have i1 : ¬ (1048576 : Int) < (n : Int) := by omega
  have i2 : ¬ (65536 : Int) < (n : Int) := by omega
  go_enter Try.func3, Try.ntmps3
  go_wp2_with (first | (go_at_call 5; go_in))
  go_ret
  exact ⟨rfl, Below.refl _ _⟩

theorem guard5 (s1 s2 : Int) (a : Option Addr) (n c : Nat) (z : Int) (w : World) (h2 : n ≤ 65536) (h3 : ¬ z < 0) (h4 : ¬ (n : Int) < z) (h5 : z % 8 ≠ 0) :
    Calls Try.prog 3 #[.int .u64 s1, .int .u64 s2, .slice a n c, .int .i64 z] w fun e w' => e = .returned (.bool true) ∧ Below w.heap.size w w' := by
  have i1 : ¬ (1048576 : Int) < (n : Int) := by omega
  have i2 : ¬ (65536 : Int) < (n : Int) := by omega
  go_enter Try.func3, Try.ntmps3
  go_wp2_with (first | (go_at_call 5; go_in))
  go_ret
  exact ⟨rfl, Below.refl _ _⟩

end Go.Proofs.Qxb6616258a.Split
