/- SEAT b6616258a. The walk of the second law: reads that end inside a word. -/
import Derived.Test.Qxb6616258aCalls

namespace Go.Proofs.Qxb6616258a.Drops

open Go.RowKit Go.Proofs.Qxb6616258a.Pcg

theorem st_add (hi lo : Int) (q : Nat) : ∀ k, st (st hi lo q).1 (st hi lo q).2 k = st hi lo (q + k)
  | 0 => rfl
  | k + 1 => by rw [show q + (k + 1) = (q + k) + 1 by omega]; simp only [st]; rw [st_add hi lo q k]

theorem byteAt_add (hi lo : Int) (q j : Nat) : byteAt (st hi lo q).1 (st hi lo q).2 j = byteAt hi lo (8 * q + j) := by
  unfold byteAt
  rw [st_add, show (8 * q + j) / 8 = q + j / 8 by omega, show (8 * q + j) % 8 = j % 8 by omega]

set_option maxHeartbeats 4000000 in
set_option maxRecDepth 100000 in
theorem main_walk (s1 s2 : Int) (l1 : 0 ≤ s2) (l2 : s2 < 18446744073709551616) (a : Option Addr) (n c : Nat) (f : Nat → Int) (b : Option Addr) (m d : Nat) (f2 : Nat → Int) (w : World)
    (ha : Rd w a n f) (hb : Rd w b m f2) (na : a = none → n = 0) (nb : b = none → m = 0) (hn : n ≤ 65536) (hm : m ≤ 65536) :
    Calls Try.prog 4 #[.int .u64 s1, .int .u64 s2, .slice a n c, .slice b m d] w fun e w' => e = .returned (.bool true) ∧ Below w.heap.size w w' := by
  have i1 : ¬ ((1048576 : Int) < (n : Int)) := by omega
  have i2 : ¬ ((1048576 : Int) < (m : Int)) := by omega
  have i3 : ¬ ((1048576 : Int) < (n : Int) + (m : Int)) := by omega
  have i4 : ¬ ((65536 : Int) < (n : Int)) := by omega
  have i5 : ¬ ((65536 : Int) < (m : Int)) := by omega
  go_enter Try.func4, Try.ntmps4
  go_wp2_with (first | (go_at_call 11; go_in))
  refine (clone_any a n c f (by omega) na _ ha).mono ?_
  rintro e w1 ⟨a', c', rfl, B1, na', bel1⟩
  have hb1 := hb.keep (Fr.of_below bel1 (fun _ => False)) (fun _ _ _ h => h)
  clear i1 i2 i3 i4 i5 ha hb
  go_wp2_with fail
  refine (clone_any b m d f2 (by omega) nb _ hb1).mono ?_
  rintro e w2 ⟨b', d', rfl, B2, nb', bel2⟩
  have B1' := B1.keep (Fr.of_below bel2 (fun _ => False)) (fun h => h)
  clear hb1
  have bel02 := bel1.trans (bel2.mono bel1.size)
  obtain ⟨q, hq⟩ : ∃ q, q = (n + 7) / 8 := ⟨_, rfl⟩
  have HQ : Hid (q = (n + 7) / 8) := hq
  have HS : Hid (((n : Int) + 7) / 8 * 8 = 8 * (q : Int)) := by show _ = _; omega
  have hmk := run_make_row' (P := Try.prog) 23 5 (.int .u8 0) 1 Try.underlying23 info5 rfl .i64 .i64 (8 * q + m) (by omega) (by omega)
  rw [show ((8 * q + m : Nat) : Int) = ((n : Int) + 7) / 8 * 8 + (m : Int) by omega] at hmk
  have hnq : n ≤ 8 * q := by omega
  have hqb : 8 * q ≤ 65543 := by omega
  have hW := World.rowIs_made w2 (.int .u8 0) (8 * q + m) 5
  have hWf := (Fr.refl (fun _ => False) w2).alloc (.cells (madeCells #[.int .u8 0] (8 * q + m)) 5)
  clear hq
  go_wp2_with fail
  simp only [HS.out]
  refine (new_ex s1 s2 _).mono ?_
  rintro e w3 ⟨p, r, rfl, hpw, hrw, hrp, hp3, hr3, hf3⟩
  clear hmk
  simp only [World.size_alloc] at hpw hrw
  have hf23 := (hWf.trans hf3 (fun _ _ h => h)).alloc (.cells #[.pointer (some ⟨r, 0, none⟩)] 29)
  have hf33 := (Fr.refl (fun _ => False) w3).alloc (.cells #[.pointer (some ⟨r, 0, none⟩)] 29)
  have A3 := B1'.keep hf23 (fun h => h)
  have C3 := B2.keep hf23 (fun h => h)
  have W3 := (hW.of_block (hf3.block w2.heap.size (by simp) (fun h => h))).alloc (.cells #[.pointer (some ⟨r, 0, none⟩)] 29)
  have P3 := hf33.keep hp3 (fun h => h)
  have R3 := hf33.cell hr3 (fun h => h)
  have V3 : (w3.alloc (.cells #[.pointer (some ⟨r, 0, none⟩)] 29)).cell? ⟨w3.heap.size, 0, none⟩ = some (.pointer (some ⟨r, 0, none⟩)) := World.cell?_alloc_at _ _ _ _ rfl
  have hpl := lt_of_heap hp3
  have hrl := World.block_lt_of_cell? _ _ hr3
  have o1 : 0 < n → w.heap.size < w1.heap.size := fun h => B1.lt h
  have o2 : 0 < m → w1.heap.size < w2.heap.size := fun h => B2.lt h
  have s01 := bel1.size
  have s12 := bel2.size
  have hRd := rng_any r p w.heap.size a' n c' s1 s2 f (by omega) l1 l2 _ P3 R3 A3 hrp (fun h => by omega)
  clear B1 B1' B2 hW hWf hp3 hr3 hf3
  go_wp2_with fail
  refine hRd.mono ?_
  rintro e w4 ⟨rfl, P4, A4, f34⟩
  rw [← HQ.out] at P4
  have V4 := f34.cell V3 (fun h => by simp only at h; omega)
  have R4 := f34.cell R3 (fun h => by simp only at h; omega)
  have C4 : Buf w4 w1.heap.size b' m d' f2 := by
    by_cases hm0 : m = 0
    · exact .inl hm0
    · exact C3.keep f34 (fun h => by omega)
  have W4 := W3.of_block (f34.block w2.heap.size (by simp; omega) (fun h => by omega))
  have hst := st_range s1 s2 l1 l2 q
  have hRd2 := rng_any r p w1.heap.size b' m d' _ _ f2 (by omega) hst.1 hst.2 w4 P4 R4 C4 hrp (fun h => by omega)
  clear hRd V3 R3 C3 W3 P3 A3
  go_wp2_with fail
  refine hRd2.mono ?_
  rintro e w5 ⟨rfl, _, C5, f45⟩
  have A5 : Buf w5 w.heap.size a' n c' (byteAt s1 s2) := by
    by_cases hn0 : n = 0
    · exact .inl hn0
    · exact A4.keep f45 (fun h => by omega)
  have W5 := W4.of_block (f45.block w2.heap.size W4.lt (fun h => by omega))
  have s34 := f34.size
  have s45 := f45.size
  simp only [World.size_alloc] at s34
  clear hRd2 V4 R4 C4 W4 P4 A4
  go_wp2_with fail
  refine (new_ex s1 s2 _).mono ?_
  rintro e w6 ⟨p', r', rfl, hpw', hrw', hrp', hp6, hr6, hf6⟩
  have hf66 := (Fr.refl (fun _ => False) w6).alloc (.cells #[.pointer (some ⟨r', 0, none⟩)] 29)
  have hf56 := hf6.alloc (.cells #[.pointer (some ⟨r', 0, none⟩)] 29)
  have A6 := A5.keep hf56 (fun h => h)
  have C6 := C5.keep hf56 (fun h => h)
  have W6 := W5.of_block (hf56.block w2.heap.size W5.lt (fun h => h))
  have hRd3 := rng_any r' p' w2.heap.size (some ⟨w2.heap.size, 0, none⟩) (8 * q + m) (8 * q + m) s1 s2 (fun _ => 0) (by omega) l1 l2 _ (hf66.keep hp6 (fun h => h)) (hf66.cell hr6 (fun h => h)) (.inr ⟨rfl, rfl, W6⟩) hrp' (fun h => by omega)
  clear A5 C5 W5
  go_wp2_with fail
  refine hRd3.mono ?_
  rintro e w7 ⟨rfl, _, W7, f67⟩
  have A7 : Buf w7 w.heap.size a' n c' (byteAt s1 s2) := by
    by_cases hn0 : n = 0
    · exact .inl hn0
    · exact A6.keep f67 (fun h => by omega)
  have C7 : Buf w7 w1.heap.size b' m d' (byteAt (st s1 s2 q).1 (st s1 s2 q).2) := by
    by_cases hm0 : m = 0
    · exact .inl hm0
    · exact C6.keep f67 (fun h => by omega)
  clear hRd3 A6 C6 W6
  have e1 : ((n : Int) != (n : Int)) = false := by simp
  have e2 : ((m : Int) != (m : Int)) = false := by simp
  have e3 : ((8 * (q : Int) + (m : Int)) != (8 * (q : Int) + (m : Int))) = false := by simp
  go_wp2_with fail
  have W8 : Rd w7 (some ⟨w2.heap.size, 0, none⟩) n (byteAt s1 s2) := W7.rd_take (by omega)
  refine (equal_true a' (some ⟨w2.heap.size, 0, none⟩) n c' (8 * q + m) (byteAt s1 s2) (by omega) w7 A7.rd W8).mono ?_
  rintro e w8 ⟨rfl, x1, rfl⟩
  have W9 : Rd (w7.drewN x1) (some ⟨w2.heap.size, 8 * q, none⟩) m (byteAt (st s1 s2 q).1 (st s1 s2 q).2) := by
    have h := W7.rd_drop (k := 8 * q) (by omega)
    rw [show 8 * q + m - 8 * q = m by omega] at h
    rw [show (fun i => byteAt s1 s2 (8 * q + i)) = byteAt (st s1 s2 q).1 (st s1 s2 q).2 from funext fun j => (byteAt_add s1 s2 q j).symm] at h
    exact h.keep ((Fr.refl (fun _ => False) w7).drewN x1) (fun _ _ _ h => h)
  have C9 := C7.rd.keep ((Fr.refl (fun _ => False) w7).drewN x1) (fun _ _ _ h => h)
  have hBel : ∀ x2, Below w.heap.size w (w7.drewN x2) := by
    intro x2
    have s56 := hf56.size
    have s23 := hf23.size
    simp only [World.size_alloc] at s23 s56
    have t3 := hf23.below (B := w.heap.size) (by omega) (fun k hk h => h)
    have t4 := f34.below (B := w.heap.size) (by simp; omega) (fun k hk => by omega)
    have t5 := f45.below (B := w.heap.size) (by omega) (fun k hk => by omega)
    have t6 := hf56.below (B := w.heap.size) (by omega) (fun k hk h => h)
    have t7 := (f67.drewN x2).below (B := w.heap.size) (by simp; omega) (fun k hk => by omega)
    exact ((((bel02.trans t3).trans t4).trans t5).trans t6).trans t7
  by_cases hm0 : m = 0
  · subst hm0
    have hk0 : (0 : Int) ≤ 8 * (q : Int) := by omega
    have hkt : (8 * (q : Int)).toNat = 8 * q := by omega
    go_wp2_with fail
    refine (equal_true b' _ 0 d' _ (fun _ => 0) (by omega) _ (.inl rfl) (.inl rfl)).mono ?_
    rintro e w9 ⟨rfl, x2, rfl⟩
    go_wp2
    go_ret
    exact ⟨rfl, hBel _⟩
  · have hk1 : 8 * (q : Int) ≤ 8 * (q : Int) + (m : Int) := by omega
    have hk0 : (0 : Int) ≤ 8 * (q : Int) := by omega
    have hkt : (8 * (q : Int)).toNat = 8 * q := by omega
    have hkm : 8 * q + m - 8 * q = m := by omega
    go_wp2_with fail
    refine (equal_true b' _ m d' m (byteAt (st s1 s2 q).1 (st s1 s2 q).2) (by omega) _ C9 W9).mono ?_
    rintro e w9 ⟨rfl, x2, rfl⟩
    go_wp2
    go_ret
    exact ⟨rfl, hBel _⟩

/-! ### The early exits. -/

theorem guard1 (s1 s2 : Int) (a : Option Addr) (n c : Nat) (b : Option Addr) (m d : Nat) (w : World) (h1 : 1048576 < n) :
    Calls Try.prog 4 #[.int .u64 s1, .int .u64 s2, .slice a n c, .slice b m d] w fun e w' => e = .returned (.bool true) ∧ Below w.heap.size w w' := by
  have i1 : (1048576 : Int) < (n : Int) := by omega
  go_enter Try.func4, Try.ntmps4
  go_wp2_with (first | (go_at_call 11; go_in))
  go_ret
  exact ⟨rfl, Below.refl _ _⟩

theorem guard2 (s1 s2 : Int) (a : Option Addr) (n c : Nat) (b : Option Addr) (m d : Nat) (w : World) (h1 : n ≤ 1048576) (h2 : 1048576 < m) :
    Calls Try.prog 4 #[.int .u64 s1, .int .u64 s2, .slice a n c, .slice b m d] w fun e w' => e = .returned (.bool true) ∧ Below w.heap.size w w' := by
  have i1 : ¬ (1048576 : Int) < (n : Int) := by omega
  have i2 : (1048576 : Int) < (m : Int) := by omega
  go_enter Try.func4, Try.ntmps4
  go_wp2_with (first | (go_at_call 11; go_in))
  go_ret
  exact ⟨rfl, Below.refl _ _⟩

theorem guard3 (s1 s2 : Int) (a : Option Addr) (n c : Nat) (b : Option Addr) (m d : Nat) (w : World) (h1 : n ≤ 1048576) (h2 : m ≤ 1048576) (h3 : 1048576 < n + m) :
    Calls Try.prog 4 #[.int .u64 s1, .int .u64 s2, .slice a n c, .slice b m d] w fun e w' => e = .returned (.bool true) ∧ Below w.heap.size w w' := by
  have i1 : ¬ (1048576 : Int) < (n : Int) := by omega
  have i2 : ¬ (1048576 : Int) < (m : Int) := by omega
  have i3 : (1048576 : Int) < (n : Int) + (m : Int) := by omega
  go_enter Try.func4, Try.ntmps4
  go_wp2_with (first | (go_at_call 11; go_in))
  go_ret
  exact ⟨rfl, Below.refl _ _⟩

theorem guard4 (s1 s2 : Int) (a : Option Addr) (n c : Nat) (b : Option Addr) (m d : Nat) (w : World) (h1 : n ≤ 1048576) (h2 : m ≤ 1048576) (h3 : n + m ≤ 1048576) (h4 : 65536 < n) :
    Calls Try.prog 4 #[.int .u64 s1, .int .u64 s2, .slice a n c, .slice b m d] w fun e w' => e = .returned (.bool true) ∧ Below w.heap.size w w' := by
  have i1 : ¬ (1048576 : Int) < (n : Int) := by omega
  have i2 : ¬ (1048576 : Int) < (m : Int) := by omega
  have i3 : ¬ (1048576 : Int) < (n : Int) + (m : Int) := by omega
  have i4 : (65536 : Int) < (n : Int) := by omega
  go_enter Try.func4, Try.ntmps4
  go_wp2_with (first | (go_at_call 11; go_in))
  go_ret
  exact ⟨rfl, Below.refl _ _⟩

theorem guard5 (s1 s2 : Int) (a : Option Addr) (n c : Nat) (b : Option Addr) (m d : Nat) (w : World) (h1 : n ≤ 1048576) (h2 : m ≤ 1048576) (h3 : n + m ≤ 1048576) (h4 : n ≤ 65536) (h5 : 65536 < m) :
    Calls Try.prog 4 #[.int .u64 s1, .int .u64 s2, .slice a n c, .slice b m d] w fun e w' => e = .returned (.bool true) ∧ Below w.heap.size w w' := by
  have i1 : ¬ (1048576 : Int) < (n : Int) := by omega
  have i2 : ¬ (1048576 : Int) < (m : Int) := by omega
  have i3 : ¬ (1048576 : Int) < (n : Int) + (m : Int) := by omega
  have i4 : ¬ (65536 : Int) < (n : Int) := by omega
  have i5 : (65536 : Int) < (m : Int) := by omega
  go_enter Try.func4, Try.ntmps4
  go_wp2_with (first | (go_at_call 11; go_in))
  go_ret
  exact ⟨rfl, Below.refl _ _⟩

end Go.Proofs.Qxb6616258a.Drops
