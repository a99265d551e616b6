/-
  SEAT b6616507a. The walk of the law (function 3).
-/
import Derived.Test.Qxb6616507aApp
import Derived.Deep.Cut
import Derived.Deep.CutRange

namespace Go.Proofs.Qxb6616507a.Law

open Go.RowKit Go.Proofs.Qxb6616507a.Pre

theorem clone_own (a : Option Addr) (n c : Nat) (zs : List Int) (hz : zs.length = n) (hn : n ≤ 1048576) (hnil : a = none → n = 0) (w : World) (hrd : Rd w a (bl zs)) :
    Calls Try.prog 6 #[.slice a n c] w fun e w' => ∃ v, e = .returned v ∧ w'.ownsRow w.heap.size 5 1 v n (bl zs) ∧ Below w.heap.size w w' := by
  cases a with
  | none =>
    obtain rfl := hnil rfl
    obtain rfl : zs = [] := List.eq_nil_of_length_eq_zero hz
    refine (clone_nil 0 c w).mono ?_
    rintro e w' ⟨rfl, rfl⟩
    exact ⟨_, rfl, World.ownsRow_nil _ _ _ _, Below.refl _ _⟩
  | some x =>
    refine (clone_some x n c zs hz hn w hrd).mono ?_
    rintro e w' ⟨rfl, hr, hb⟩
    exact ⟨_, rfl, hr.owns (Nat.le_refl _) (by rw [bl_length, hz]) (by unfold maxLen; omega), hb⟩

set_option maxHeartbeats 4000000 in
set_option maxRecDepth 100000 in
theorem main_walk (a : Option Addr) (n c : Nat) (zs : List Int) (b : Option Addr) (m d : Nat) (ys : List Int) (w : World)
    (ha : Rd w a (bl zs)) (hb : Rd w b (bl ys)) (na : a = none → n = 0) (nb : b = none → m = 0 ∧ d = 0) (hzs : zs.length = n) (hys : ys.length = m) (hn : n ≤ 524288) (hm : m ≤ 524288) :
    Calls Try.prog 3 #[.slice a n c, .slice b m d] w fun e w' => e = .returned (.bool true) ∧ Below w.heap.size w w' := by
  have i1 : ¬ ((1048576 : Int) < (n : Int)) := by omega
  have i2 : ¬ ((1048576 : Int) < (m : Int)) := by omega
  have i3 : ¬ ((1048576 : Int) < (n : Int) + (m : Int)) := by omega
  have i4 : ¬ ((524288 : Int) < (n : Int)) := by omega
  have i5 : ¬ ((524288 : Int) < (m : Int)) := by omega
  have hk := fun (w : World) => run_neq_slice_nil_any (P := Try.prog) w 22 5 b m d 0 0 Try.underlying22
  go_enter Try.func3, Try.ntmps3
  go_upto_if 19 with (first | (go_at_call 4; go_in))
  go_cut [1, 5] from 20 to 26 (fun v z wx => ∃ b' d', v = .slice b' m d' ∧ Rd wx b' (bl ys) ∧ (b' = none → m = 0 ∧ d' = 0) ∧ (∀ x : Addr, b' = some x → 0 < m → x.block < wx.heap.size) ∧ Below w.heap.size w wx)
  case first =>
    clear i1 i2 i3 i4 i5
    have NB : Hid (b = none → m = 0 ∧ d = 0) := nb
    clear nb
    cases b with
    | none =>
      go_wp2_with fail
      go_meet
      exact ⟨_, _, rfl, hb, (fun _ => NB.out trivial), (fun x h => by cases h), Below.refl _ _⟩
    | some x =>
      have hmk := run_make_row' (P := Try.prog) 22 5 (.int .u8 0) 1 Try.underlying22 info5 rfl .i64 .i64 m (by omega) (by omega)
      have R0 := Row.made w (.int .u8 0) m 5
      have b0 := (Below.refl w.heap.size w).alloc (Nat.le_refl _) (.cells (madeCells #[.int .u8 0] m) 5)
      have rd0 := hb.since b0
      obtain ⟨w2, hcp, hR, hB⟩ := run_copy_full (P := Try.prog) _ 22 3 5 Try.underlying22 size5 (some x) m d w.heap.size _ (bl ys) 5 R0 (by simp) (by rw [bl_length, hys]) rd0 (bl_one ys) _ w b0 (Nat.le_refl _)
      clear R0 b0 rd0
      go_wp2_with fail
      go_meet
      exact ⟨_, _, rfl, hR.rd, (fun h => by cases h), (fun x h _ => by cases h; exact hR.lt), hB⟩
  case rest =>
    obtain ⟨b', d', rfl, hb', nb', hlt', bel1⟩ := hcut
    clear i1 i2 i3 i4 i5 hk hb
    have ha1 := ha.since bel1
    go_wp2_with fail
    refine (clone_own a n c zs hzs (by omega) na _ ha1).mono ?_
    rintro e w2 ⟨v2, rfl, own2, bel2⟩
    have hb2 := hb'.since bel2
    have hA := app_any wc.heap.size n m d' b' ys hys (by omega) (by omega) v2 (bl zs) w2 own2 bel2.size hb2 hlt' nb'
    clear own2 hb2
    go_wp2_with fail
    refine hA.mono ?_
    rintro e w3 ⟨v3, rfl, own3, bel3⟩
    clear hA
    have bel13 := bel2.trans bel3
    have hb3 := hb'.since bel13
    have hA := app_any w3.heap.size 0 m d' b' ys hys (by omega) (by omega) (.slice none 0 0) [] w3 (World.ownsRow_nil _ _ _ _) (Nat.le_refl _) hb3 (fun x h1 h2 => Nat.lt_of_lt_of_le (hlt' x h1 h2) bel13.size) nb'
    go_wp2_with fail
    refine hA.mono ?_
    rintro e w4 ⟨v4, rfl, own4, bel4⟩
    clear hA
    obtain ⟨ao, co, rfl, hco, no, hlo, rdo, xo⟩ := owns_rd own3
    obtain ⟨aa, ca, rfl, hca, nna, hla, rda, xa⟩ := owns_rd own4
    have rdo4 := rdo.since bel4
    have hb4 := hb3.since bel4
    have ha4 := (ha1.since bel13).since bel4
    have belE := (bel1.trans (bel13.mono bel1.size)).trans (bel4.mono (Nat.le_trans bel1.size bel13.size))
    clear own3 own4 hb3 hb' ha1 rdo
    cases ao with
    | none => have := (no rfl).1; omega
    | some xo' =>
      cases aa with
      | none => have := (nna rfl).1; omega
      | some xa' =>
        obtain ⟨eo, _, hog⟩ := xo xo' rfl
        obtain ⟨ea, _, hag⟩ := xa xa' rfl
        obtain ⟨go, hgo⟩ : ∃ g, g = xo'.block := ⟨_, rfl⟩
        obtain ⟨ga, hga⟩ : ∃ g, g = xa'.block := ⟨_, rfl⟩
        rw [← hgo] at eo
        rw [← hga] at ea
        subst eo ea
        clear hgo hga xo xa no nna
        rw [Nat.zero_add] at hca hla
        simp only [Nat.zero_add, List.nil_append] at *
        go_wp2_with fail
        refine (equal_true _ _ n _ _ zs hzs (by omega) w4 rdo4.take ha4).mono ?_
        rintro e w5 ⟨rfl, x1, rfl⟩
        have rdo5 := rdo4.drop
        rw [bl_length, hzs, Nat.zero_add] at rdo5
        have hq1 : ¬ co = n := by omega
        have hq2 : n + 8 + m - n = 8 + m := by omega
        have hq3 : (n : Int) ≤ (n : Int) + 8 + (m : Int) := by omega
        have hq4 : (8 : Int) ≤ 8 + (m : Int) := by omega
        have hle : (le8 m ++ ys).length = 8 + m := by simp [le8_length, hys]
        have hbl : bl (le8 m) ++ bl ys = bl (le8 m ++ ys) := by simp [bl]
        have rda8 : Rd w4 (some ⟨ga, 0, none⟩) (bl (le8 m)) := rda.take
        have rdad := rda.drop
        rw [bl_length, le8_length, Nat.zero_add] at rdad
        rw [hbl] at rda rdo5
        have hml : m < 18446744073709551616 := by omega
        clear rdo4 hbl
        go_wp2_with fail
        refine (equal_true _ _ (8 + m) _ _ (le8 m ++ ys) hle (by omega) (w4.drewN x1) rdo5 rda).mono ?_
        rintro e w6 ⟨rfl, x2, rfl⟩
        clear hle
        go_wp2_with fail
        refine (le64_any _ _ m hml (w4.drewN (x1 + x2)) rda8).mono ?_
        rintro e w7 ⟨rfl, hw7⟩
        subst hw7
        by_cases hc8 : ca = 8
        · have hm0 : m = 0 := by omega
          subst hm0 hc8
          go_wp2_with fail
          refine (equal_true _ _ 0 _ _ [] rfl (by omega) (w4.drewN (x1 + x2)) (.inl rfl) (.inl rfl)).mono ?_
          rintro e w8 ⟨rfl, x3, rfl⟩
          go_wp2
          go_ret
          exact ⟨rfl, below_drewN belE _⟩
        · have hq5 : 8 + m - 8 = m := by omega
          go_wp2_with fail
          refine (equal_true _ _ m _ _ ys hys (by omega) (w4.drewN (x1 + x2)) rdad hb4).mono ?_
          rintro e w8 ⟨rfl, x3, rfl⟩
          go_wp2
          go_ret
          exact ⟨rfl, below_drewN belE _⟩

/-! ### The early exits. -/

theorem guard1 (a : Option Addr) (n c : Nat) (b : Option Addr) (m d : Nat) (w : World) (h1 : 1048576 < n) :
    Calls Try.prog 3 #[.slice a n c, .slice b m d] w fun e w' => e = .returned (.bool true) ∧ Below w.heap.size w w' := by
  have i1 : (1048576 : Int) < (n : Int) := by omega
  go_enter Try.func3, Try.ntmps3
  go_wp2_with (first | (go_at_call 4; go_in))
  go_ret
  exact ⟨rfl, Below.refl _ _⟩

theorem guard2 (a : Option Addr) (n c : Nat) (b : Option Addr) (m d : Nat) (w : World) (h1 : n ≤ 1048576) (h2 : 1048576 < m) :
    Calls Try.prog 3 #[.slice a n c, .slice b m d] w fun e w' => e = .returned (.bool true) ∧ Below w.heap.size w w' := by
  have i1 : ¬ (1048576 : Int) < (n : Int) := by omega
  have i2 : (1048576 : Int) < (m : Int) := by omega
  go_enter Try.func3, Try.ntmps3
  go_wp2_with (first | (go_at_call 4; go_in))
  go_ret
  exact ⟨rfl, Below.refl _ _⟩

theorem guard3 (a : Option Addr) (n c : Nat) (b : Option Addr) (m d : Nat) (w : World) (h1 : n ≤ 1048576) (h2 : m ≤ 1048576) (h3 : 1048576 < n + m) :
    Calls Try.prog 3 #[.slice a n c, .slice b m d] w fun e w' => e = .returned (.bool true) ∧ Below w.heap.size w w' := by
  have i1 : ¬ (1048576 : Int) < (n : Int) := by omega
  have i2 : ¬ (1048576 : Int) < (m : Int) := by omega
  have i3 : (1048576 : Int) < (n : Int) + (m : Int) := by omega
  go_enter Try.func3, Try.ntmps3
  go_wp2_with (first | (go_at_call 4; go_in))
  go_ret
  exact ⟨rfl, Below.refl _ _⟩

theorem guard4 (a : Option Addr) (n c : Nat) (b : Option Addr) (m d : Nat) (w : World) (h1 : n ≤ 1048576) (h2 : m ≤ 1048576) (h3 : n + m ≤ 1048576) (h4 : 524288 < n) :
    Calls Try.prog 3 #[.slice a n c, .slice b m d] w fun e w' => e = .returned (.bool true) ∧ Below w.heap.size w w' := by
  have i1 : ¬ (1048576 : Int) < (n : Int) := by omega
  have i2 : ¬ (1048576 : Int) < (m : Int) := by omega
  have i3 : ¬ (1048576 : Int) < (n : Int) + (m : Int) := by omega
  have i4 : (524288 : Int) < (n : Int) := by omega
  go_enter Try.func3, Try.ntmps3
  go_wp2_with (first | (go_at_call 4; go_in))
  go_ret
  exact ⟨rfl, Below.refl _ _⟩

theorem guard5 (a : Option Addr) (n c : Nat) (b : Option Addr) (m d : Nat) (w : World) (h2 : m ≤ 1048576) (h3 : n + m ≤ 1048576) (h4 : n ≤ 524288) (h5 : 524288 < m) :
    Calls Try.prog 3 #[.slice a n c, .slice b m d] w fun e w' => e = .returned (.bool true) ∧ Below w.heap.size w w' := by
  have i1 : ¬ (1048576 : Int) < (n : Int) := by omega
  have i2 : ¬ (1048576 : Int) < (m : Int) := by omega
  have i3 : ¬ (1048576 : Int) < (n : Int) + (m : Int) := by omega
  have i4 : ¬ (524288 : Int) < (n : Int) := by omega
  have i5 : (524288 : Int) < (m : Int) := by omega
  go_enter Try.func3, Try.ntmps3
  go_wp2_with (first | (go_at_call 4; go_in))
  go_ret
  exact ⟨rfl, Below.refl _ _⟩

end Go.Proofs.Qxb6616507a.Law
