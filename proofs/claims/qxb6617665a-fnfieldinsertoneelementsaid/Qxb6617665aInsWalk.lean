/-
  SEAT b6617665a. The walk of the law on insertion (function 3).
-/
import Derived.Test.Qxb6617665aRows5

namespace Go.Proofs.Qxb6617665a.Ins

open Go.RowKit Go.Proofs.Qxb6617665a.Pre

set_option maxHeartbeats 16000000 in
set_option maxRecDepth 100000 in
theorem main_walk (a0 a1 a2 a3 a4 : Option Addr) (n0 c0 n1 c1 n2 c2 n3 c3 n4 c4 : Nat) (S0 S1 : Nat → ByteArray) (T2 T3 T4 : Nat → Int) (pz : Int) (en ek : ByteArray) (es ew ed : Int) (q : ByteArray) (w : World)
    (h0 : RdF w a0 n0 (fun i => .string (S0 i))) (h1 : RdF w a1 n1 (fun i => .string (S1 i))) (h2 : RdF w a2 n2 (fun i => .int .i64 (T2 i))) (h3 : RdF w a3 n3 (fun i => .int .i64 (T3 i))) (h4 : RdF w a4 n4 (fun i => .int .u8 (T4 i)))
    (nil0 : a0 = none → n0 = 0 ∧ c0 = 0) (nil1 : a1 = none → n1 = 0 ∧ c1 = 0) (nil2 : a2 = none → n2 = 0 ∧ c2 = 0) (nil3 : a3 = none → n3 = 0 ∧ c3 = 0) (nil4 : a4 = none → n4 = 0 ∧ c4 = 0) :
    Calls Try.prog 3 #[.slice a0 n0 c0, .slice a1 n1 c1, .slice a2 n2 c2, .slice a3 n3 c3, .slice a4 n4 c4, .int .i64 pz, .string en, .string ek, .int .i64 es, .int .i64 ew, .int .u8 ed, .string q] w
      fun e w' => e = .returned (.bool true) ∧ Below w.heap.size w w' := by
  go_enter Try.func3, Try.ntmps3
  go_wp2_with fail
  refine (bytes5 a0 a1 a2 a3 a4 n0 c0 n1 c1 n2 c2 n3 c3 n4 c4 S0 S1 pz es ew ed en ek q w h0 h1).mono ?_
  rintro x w1 ⟨⟨r, rfl⟩, rfl⟩
  cases r with
  | false =>
    go_wp2_with fail
    go_ret
    exact ⟨rfl, Below.refl _ _⟩
  | true =>
  go_wp2_with fail
  refine (ok_any a0 a1 a2 a3 a4 n0 c0 n1 c1 n2 c2 n3 c3 n4 c4 S0 S1 en ek q w1 h0 h1).mono ?_
  rintro x w2 ⟨⟨r, rfl, hr⟩, rfl⟩
  cases r with
  | false =>
    go_wp2_with fail
    go_ret
    exact ⟨rfl, Below.refl _ _⟩
  | true =>
  obtain ⟨l0, l1, l2, l3, l4⟩ := hr rfl
  have bel := Below.refl w2.heap.size w2
  clear hr
  have hk := fun (w : World) => run_neq_slice_nil_any (P := Try.prog) w 22 9 a0 n0 c0 0 0 Try.underlying22
  go_upto_if 77 with fail
  go_cut [0, 25] from 78 to 84 (fun v z wx => ∃ b', v = .slice b' n0 n0 ∧ Mine wx b' n0 n0 (fun i => .string (S0 i)) ∧ Below w2.heap.size w2 wx)
  case first =>
    have NB : Hid (a0 = none → n0 = 0 ∧ c0 = 0) := nil0
    clear nil0 nil1 nil2 nil3 nil4
    cases a0 with
    | none =>
      go_wp2_with fail
      go_meet
      refine ⟨none, ?_, ⟨rfl, .inl ⟨rfl, (NB.out trivial).1⟩, h0⟩, Below.refl _ _⟩
      rw [(NB.out trivial).1, (NB.out trivial).2]
    | some x =>
      have hmk := run_make_row' (P := Try.prog) 22 9 (.string ⟨#[]⟩) 16 Try.underlying22 info9 rfl .i64 .i64 n0 (by omega) (by omega)
      obtain ⟨w3, hcp, hR, hB⟩ := copy_facts 22 9 (.string ⟨#[]⟩) 16 Try.underlying22 info9 x n0 c0 _ (fun _ => rfl) w2 h0
      go_wp2_with fail
      go_meet
      exact ⟨_, rfl, ⟨rfl, .inr ⟨_, rfl⟩, hR⟩, hB⟩
  case rest =>
  obtain ⟨b0, rfl, M0, belc⟩ := hcut
  rename World => v0
  replace h1 := h1.since belc
  replace h2 := h2.since belc
  replace h3 := h3.since belc
  replace h4 := h4.since belc
  replace bel := bel.trans (belc.mono bel.size)
  clear belc hk h0
  have hk := fun (w : World) => run_neq_slice_nil_any (P := Try.prog) w 22 9 a1 n1 c1 0 0 Try.underlying22
  go_upto_if 86 with fail
  go_cut [1, 26] from 87 to 93 (fun v z wx => ∃ b', v = .slice b' n1 n1 ∧ Mine wx b' n1 n1 (fun i => .string (S1 i)) ∧ Below v0.heap.size v0 wx)
  case first =>
    have NB : Hid (a1 = none → n1 = 0 ∧ c1 = 0) := nil1
    clear nil0 nil1 nil2 nil3 nil4
    cases a1 with
    | none =>
      go_wp2_with fail
      go_meet
      refine ⟨none, ?_, ⟨rfl, .inl ⟨rfl, (NB.out trivial).1⟩, h1⟩, Below.refl _ _⟩
      rw [(NB.out trivial).1, (NB.out trivial).2]
    | some x =>
      have hmk := run_make_row' (P := Try.prog) 22 9 (.string ⟨#[]⟩) 16 Try.underlying22 info9 rfl .i64 .i64 n1 (by omega) (by omega)
      obtain ⟨w3, hcp, hR, hB⟩ := copy_facts 22 9 (.string ⟨#[]⟩) 16 Try.underlying22 info9 x n1 c1 _ (fun _ => rfl) v0 h1
      go_wp2_with fail
      go_meet
      exact ⟨_, rfl, ⟨rfl, .inr ⟨_, rfl⟩, hR⟩, hB⟩
  case rest =>
  obtain ⟨b1, rfl, M1, belc⟩ := hcut
  rename World => v1
  replace M0 := M0.since belc
  replace h2 := h2.since belc
  replace h3 := h3.since belc
  replace h4 := h4.since belc
  replace bel := bel.trans (belc.mono bel.size)
  clear belc hk h1
  have hk := fun (w : World) => run_neq_slice_nil_any (P := Try.prog) w 23 3 a2 n2 c2 0 0 Try.underlying23
  go_upto_if 95 with fail
  go_cut [2, 27] from 96 to 102 (fun v z wx => ∃ b', v = .slice b' n2 n2 ∧ Mine wx b' n2 n2 (fun i => .int .i64 (T2 i)) ∧ Below v1.heap.size v1 wx)
  case first =>
    have NB : Hid (a2 = none → n2 = 0 ∧ c2 = 0) := nil2
    clear nil0 nil1 nil2 nil3 nil4
    cases a2 with
    | none =>
      go_wp2_with fail
      go_meet
      refine ⟨none, ?_, ⟨rfl, .inl ⟨rfl, (NB.out trivial).1⟩, h2⟩, Below.refl _ _⟩
      rw [(NB.out trivial).1, (NB.out trivial).2]
    | some x =>
      have hmk := run_make_row' (P := Try.prog) 23 3 (.int .i64 0) 8 Try.underlying23 info3 rfl .i64 .i64 n2 (by omega) (by omega)
      obtain ⟨w3, hcp, hR, hB⟩ := copy_facts 23 3 (.int .i64 0) 8 Try.underlying23 info3 x n2 c2 _ (fun _ => rfl) v1 h2
      go_wp2_with fail
      go_meet
      exact ⟨_, rfl, ⟨rfl, .inr ⟨_, rfl⟩, hR⟩, hB⟩
  case rest =>
  obtain ⟨b2, rfl, M2, belc⟩ := hcut
  rename World => v2
  replace M0 := M0.since belc
  replace M1 := M1.since belc
  replace h3 := h3.since belc
  replace h4 := h4.since belc
  replace bel := bel.trans (belc.mono bel.size)
  clear belc hk h2
  have hk := fun (w : World) => run_neq_slice_nil_any (P := Try.prog) w 23 3 a3 n3 c3 0 0 Try.underlying23
  go_upto_if 104 with fail
  go_cut [3, 28] from 105 to 111 (fun v z wx => ∃ b', v = .slice b' n3 n3 ∧ Mine wx b' n3 n3 (fun i => .int .i64 (T3 i)) ∧ Below v2.heap.size v2 wx)
  case first =>
    have NB : Hid (a3 = none → n3 = 0 ∧ c3 = 0) := nil3
    clear nil0 nil1 nil2 nil3 nil4
    cases a3 with
    | none =>
      go_wp2_with fail
      go_meet
      refine ⟨none, ?_, ⟨rfl, .inl ⟨rfl, (NB.out trivial).1⟩, h3⟩, Below.refl _ _⟩
      rw [(NB.out trivial).1, (NB.out trivial).2]
    | some x =>
      have hmk := run_make_row' (P := Try.prog) 23 3 (.int .i64 0) 8 Try.underlying23 info3 rfl .i64 .i64 n3 (by omega) (by omega)
      obtain ⟨w3, hcp, hR, hB⟩ := copy_facts 23 3 (.int .i64 0) 8 Try.underlying23 info3 x n3 c3 _ (fun _ => rfl) v2 h3
      go_wp2_with fail
      go_meet
      exact ⟨_, rfl, ⟨rfl, .inr ⟨_, rfl⟩, hR⟩, hB⟩
  case rest =>
  obtain ⟨b3, rfl, M3, belc⟩ := hcut
  rename World => v3
  replace M0 := M0.since belc
  replace M1 := M1.since belc
  replace M2 := M2.since belc
  replace h4 := h4.since belc
  replace bel := bel.trans (belc.mono bel.size)
  clear belc hk h3
  have hk := fun (w : World) => run_neq_slice_nil_any (P := Try.prog) w 24 5 a4 n4 c4 0 0 Try.underlying24
  go_upto_if 113 with fail
  go_cut [4, 29] from 114 to 120 (fun v z wx => ∃ b', v = .slice b' n4 n4 ∧ Mine wx b' n4 n4 (fun i => .int .u8 (T4 i)) ∧ Below v3.heap.size v3 wx)
  case first =>
    have NB : Hid (a4 = none → n4 = 0 ∧ c4 = 0) := nil4
    clear nil0 nil1 nil2 nil3 nil4
    cases a4 with
    | none =>
      go_wp2_with fail
      go_meet
      refine ⟨none, ?_, ⟨rfl, .inl ⟨rfl, (NB.out trivial).1⟩, h4⟩, Below.refl _ _⟩
      rw [(NB.out trivial).1, (NB.out trivial).2]
    | some x =>
      have hmk := run_make_row' (P := Try.prog) 24 5 (.int .u8 0) 1 Try.underlying24 info5 rfl .i64 .i64 n4 (by omega) (by omega)
      obtain ⟨w3, hcp, hR, hB⟩ := copy_facts 24 5 (.int .u8 0) 1 Try.underlying24 info5 x n4 c4 _ (fun _ => rfl) v3 h4
      go_wp2_with fail
      go_meet
      exact ⟨_, rfl, ⟨rfl, .inr ⟨_, rfl⟩, hR⟩, hB⟩
  case rest =>
  obtain ⟨b4, rfl, M4, belc⟩ := hcut
  rename World => v4
  replace M0 := M0.since belc
  replace M1 := M1.since belc
  replace M2 := M2.since belc
  replace M3 := M3.since belc
  replace bel := bel.trans (belc.mono bel.size)
  clear belc hk h4
  clear nil0 nil1 nil2 nil3 nil4
  by_cases e0 : n0 = n1
  case neg =>
    have t0 : ((n0 : Int) != (n1 : Int)) = true := by rw [bne_iff_ne]; omega
    go_wp2_with fail
    go_ret
    exact ⟨rfl, bel⟩
  subst n1
  by_cases e2 : n2 = n0
  case neg =>
    have t0 : ((n0 : Int) != (n0 : Int)) = false := by simp
    have t2 : ((n2 : Int) != (n0 : Int)) = true := by rw [bne_iff_ne]; omega
    go_wp2_with fail
    go_ret
    exact ⟨rfl, bel⟩
  subst n2
  by_cases e3 : n3 = n0
  case neg =>
    have t0 : ((n0 : Int) != (n0 : Int)) = false := by simp
    have t2 : ((n3 : Int) != (n0 : Int)) = true := by rw [bne_iff_ne]; omega
    go_wp2_with fail
    go_ret
    exact ⟨rfl, bel⟩
  subst n3
  by_cases e4 : n4 = n0
  case neg =>
    have t0 : ((n0 : Int) != (n0 : Int)) = false := by simp
    have t2 : ((n4 : Int) != (n0 : Int)) = true := by rw [bne_iff_ne]; omega
    go_wp2_with fail
    go_ret
    exact ⟨rfl, bel⟩
  subst n4
  have t0 : ((n0 : Int) != (n0 : Int)) = false := by simp
  by_cases p0 : pz < 0
  · go_wp2_with fail
    go_ret
    exact ⟨rfl, bel⟩
  by_cases p1 : (n0 : Int) < pz
  · go_wp2_with fail
    go_ret
    exact ⟨rfl, bel⟩
  obtain ⟨p, hp⟩ : ∃ p : Nat, pz = (p : Int) := ⟨pz.toNat, by omega⟩
  subst hp
  have hpn : p ≤ n0 := by omega
  have p0 : ¬ ((p : Int) < 0) := by omega
  have hmk9 := run_make_row' (P := Try.prog) 22 9 (.string ⟨#[]⟩) 16 Try.underlying22 info9 rfl .i64 .i64 (n0 + 1) (by omega) (by omega)
  have hmk3 := run_make_row' (P := Try.prog) 23 3 (.int .i64 0) 8 Try.underlying23 info3 rfl .i64 .i64 (n0 + 1) (by omega) (by omega)
  have hmk5 := run_make_row' (P := Try.prog) 24 5 (.int .u8 0) 1 Try.underlying24 info5 rfl .i64 .i64 (n0 + 1) (by omega) (by omega)
  rw [show ((n0 + 1 : Nat) : Int) = (n0 : Int) + 1 by omega] at hmk9 hmk3 hmk5
  have HM : Hid (Mine v4 b0 n0 n0 (fun i => .string (S0 i)) ∧ Mine v4 b1 n0 n0 (fun i => .string (S1 i)) ∧ Mine v4 b2 n0 n0 (fun i => .int .i64 (T2 i)) ∧ Mine v4 b3 n0 n0 (fun i => .int .i64 (T3 i)) ∧ Mine v4 b4 n0 n0 (fun i => .int .u8 (T4 i))) := ⟨M0, M1, M2, M3, M4⟩
  clear M0 M1 M2 M3 M4
  obtain ⟨e, he⟩ : ∃ e : Pre.Fd, e = ⟨en, ek, es, ew, ed⟩ := ⟨_, rfl⟩
  obtain ⟨F, hF⟩ : ∃ F : Nat → Pre.Fd, F = fun i => ⟨S0 i, S1 i, T2 i, T3 i, T4 i⟩ := ⟨_, rfl⟩
  have HE : Hid (e = ⟨en, ek, es, ew, ed⟩ ∧ F = fun i => ⟨S0 i, S1 i, T2 i, T3 i, T4 i⟩) := ⟨he, hF⟩
  clear he hF
  go_wp2_with fail
  clear hmk9 hmk3 hmk5
  go_loopg [37] (n0 + 1) (fun k v wr => ∃ i : Nat, i ≤ n0 + 1 ∧ k = n0 + 1 - i ∧ v = .int .i64 (i : Nat) ∧ Rows5 wr v4.heap.size (n0 + 1) (fun j => if j < i then ins F p e j else Pre.Fd.zero) ∧ Below v4.heap.size v4 wr)
  case atStart => exact ⟨0, Nat.zero_le _, rfl, rfl, (Rows5.made v4 (n0 + 1)).congr (fun j _ => by simp), made5_below v4 (n0 + 1)⟩
  case round =>
    obtain ⟨k, hkn, hk, rfl, hrows, hbel⟩ := hrel
    have HK : Hid _ := hk
    clear hk
    by_cases hlt : k < n0 + 1
    · have x0 : wr.cell? ⟨v4.heap.size, k, none⟩ = some (.string ⟨#[]⟩) := by have := hrows.r0.cell hlt; simpa [Pre.Fd.zero] using this
      have x1 : wr.cell? ⟨v4.heap.size + 1, k, none⟩ = some (.string ⟨#[]⟩) := by have := hrows.r1.cell hlt; simpa [Pre.Fd.zero] using this
      have x2 : wr.cell? ⟨v4.heap.size + 2, k, none⟩ = some (.int .i64 0) := by have := hrows.r2.cell hlt; simpa [Pre.Fd.zero] using this
      have x3 : wr.cell? ⟨v4.heap.size + 3, k, none⟩ = some (.int .i64 0) := by have := hrows.r3.cell hlt; simpa [Pre.Fd.zero] using this
      have x4 : wr.cell? ⟨v4.heap.size + 4, k, none⟩ = some (.int .u8 0) := by have := hrows.r4.cell hlt; simpa [Pre.Fd.zero] using this
      have y0 := hrows.r0.frozen k
      have y1 := hrows.r1.frozen k
      have y2 := hrows.r2.frozen k
      have y3 := hrows.r3.frozen k
      have y4 := hrows.r4.frozen k
      have hR1 := hrows.set k (ins F p e k)
      have hR : Rows5 (set5 wr v4.heap.size k (ins F p e k)) v4.heap.size (n0 + 1) (fun j => if j < k + 1 then ins F p e j else Pre.Fd.zero) := hR1.congr (fun j _ => by
        by_cases ej : j = k
        · subst ej; simp
        · rw [if_neg ej]
          by_cases e2 : j < k
          · rw [if_pos e2, if_pos (by omega)]
          · rw [if_neg e2, if_neg (by omega)])
      have hB := set5_below (k := k) (ins F p e k) hbel (Nat.le_refl _)
      have HR : Hid _ := And.intro hR hB
      clear hR1 hR hB hrows
      have hltI : (k : Int) < (n0 : Int) + 1 := by omega
      by_cases hkp : k < p
      · obtain ⟨g0, rfl, d0, f0⟩ := HM.out.1.at (show k < n0 by omega)
        obtain ⟨g1, rfl, d1, f1⟩ := HM.out.2.1.at (show k < n0 by omega)
        obtain ⟨g2, rfl, d2, f2⟩ := HM.out.2.2.1.at (show k < n0 by omega)
        obtain ⟨g3, rfl, d3, f3⟩ := HM.out.2.2.2.1.at (show k < n0 by omega)
        obtain ⟨g4, rfl, d4, f4⟩ := HM.out.2.2.2.2.at (show k < n0 by omega)
        have D0 := (hbel.cell (p := ⟨g0, k, none⟩) f0).trans d0
        have D1 := (hbel.cell (p := ⟨g1, k, none⟩) f1).trans d1
        have D2 := (hbel.cell (p := ⟨g2, k, none⟩) f2).trans d2
        have D3 := (hbel.cell (p := ⟨g3, k, none⟩) f3).trans d3
        have D4 := (hbel.cell (p := ⟨g4, k, none⟩) f4).trans d4
        have hkn0 : (k : Int) < (n0 : Int) := by omega
        have hkpI : (k : Int) < (p : Int) := by omega
        have hi : ins F p e k = ⟨S0 k, S1 k, T2 k, T3 k, T4 k⟩ := by unfold ins; rw [if_pos hkp, HE.out.2]
        rw [hi] at HR
        clear d0 d1 d2 d3 d4 hbel hi
        go_wp2_with fail
        go_roundg (n0 + 1 - (k + 1))
        case measure => have := HK.out; omega
        case rel => exact ⟨k + 1, by omega, rfl, by go_num, HR.out.1, HR.out.2⟩
      · by_cases hkp2 : k = p
        · have hi : ins F p e k = ⟨en, ek, es, ew, ed⟩ := by unfold ins; rw [if_neg hkp, if_pos hkp2, HE.out.1]
          rw [hi] at HR
          have hkpI : ¬ ((k : Int) < (p : Int)) := by omega
          have hkpE : ((k : Int) == (p : Int)) = true := by rw [beq_iff_eq]; omega
          clear hi hbel hkp2 hkp
          go_wp2_with fail
          go_roundg (n0 + 1 - (k + 1))
          case measure => have := HK.out; omega
          case rel => exact ⟨k + 1, by omega, rfl, by go_num, HR.out.1, HR.out.2⟩
        · obtain ⟨k', rfl⟩ : ∃ k', k = k' + 1 := ⟨k - 1, by omega⟩
          obtain ⟨g0, rfl, d0, f0⟩ := HM.out.1.at (show k' < n0 by omega)
          obtain ⟨g1, rfl, d1, f1⟩ := HM.out.2.1.at (show k' < n0 by omega)
          obtain ⟨g2, rfl, d2, f2⟩ := HM.out.2.2.1.at (show k' < n0 by omega)
          obtain ⟨g3, rfl, d3, f3⟩ := HM.out.2.2.2.1.at (show k' < n0 by omega)
          obtain ⟨g4, rfl, d4, f4⟩ := HM.out.2.2.2.2.at (show k' < n0 by omega)
          have D0 := (hbel.cell (p := ⟨g0, k', none⟩) f0).trans d0
          have D1 := (hbel.cell (p := ⟨g1, k', none⟩) f1).trans d1
          have D2 := (hbel.cell (p := ⟨g2, k', none⟩) f2).trans d2
          have D3 := (hbel.cell (p := ⟨g3, k', none⟩) f3).trans d3
          have D4 := (hbel.cell (p := ⟨g4, k', none⟩) f4).trans d4
          have hkn0 : (k' : Int) < (n0 : Int) := by omega
          have hkpI : ¬ ((k' : Int) + 1 < (p : Int)) := by omega
          have hkpE : (((k' : Int) + 1) == (p : Int)) = false := by rw [beq_eq_false_iff_ne]; omega
          have hi : ins F p e (k' + 1) = ⟨S0 k', S1 k', T2 k', T3 k', T4 k'⟩ := by unfold ins; rw [if_neg hkp, if_neg hkp2, HE.out.2]; rfl
          rw [hi] at HR
          clear d0 d1 d2 d3 d4 hbel hi
          go_wp2_with fail
          go_roundg (n0 + 1 - ((k' + 1) + 1))
          case measure => have := HK.out; omega
          case rel => exact ⟨(k' + 1) + 1, by omega, rfl, by go_num, HR.out.1, HR.out.2⟩
    · obtain rfl : k = n0 + 1 := by omega
      have hfive := (hrows.congr (G' := ins F p e) (fun j hj => by rw [if_pos hj])).five
      have hL := look_any _ _ _ _ _ (n0 + 1) (n0 + 1) (n0 + 1) (n0 + 1) (n0 + 1) (n0 + 1) (ins F p e) q (by omega) wr hfive
      obtain ⟨o1, ho1⟩ : ∃ o, o = firstFrom (ins F p e) q (n0 + 1) 0 := ⟨_, rfl⟩
      rw [← ho1] at hL
      have HO : Hid _ := ho1
      have M1 := HM.out.2.1.since hbel
      clear ho1 hfive hrows
      go_wp2_with fail
      refine hL.mono ?_
      rintro x w5 ⟨rfl, bel5⟩
      have belE0 := bel.trans (hbel.mono bel.size)
      have belE := belE0.trans (bel5.mono belE0.size)
      have bel45 := hbel.trans (bel5.mono hbel.size)
      replace M1 := M1.since bel5
      have hFive : Five w5 b0 b1 b2 b3 b4 n0 F := by
        rw [HE.out.2]
        exact ⟨(HM.out.1.since bel45).2.2, (HM.out.2.1.since bel45).2.2, (HM.out.2.2.1.since bel45).2.2, (HM.out.2.2.2.1.since bel45).2.2, (HM.out.2.2.2.2.since bel45).2.2⟩
      have hL2 := look_any b0 b1 b2 b3 b4 n0 n0 n0 n0 n0 n0 F q (by omega) w5 hFive
      obtain ⟨f, hf⟩ : ∃ f, f = o1.getD Pre.Fd.zero := ⟨_, rfl⟩
      obtain ⟨sb, hsb⟩ : ∃ b, b = o1.isSome := ⟨_, rfl⟩
      simp only [ansV, ← hf, ← hsb]
      have HF : Hid (f = o1.getD Pre.Fd.zero ∧ sb = o1.isSome) := ⟨hf, hsb⟩
      have z1 : (f.name.toList == f.name.toList) = true := by simp
      have z2 : (f.key.toList == f.key.toList) = true := by simp
      have z3 : (f.start == f.start) = true := by simp
      have z4 : (f.width == f.width) = true := by simp
      have z5 : (f.kind == f.kind) = true := by simp
      have z6 : (sb == sb) = true := by simp
      clear hf hsb hL hFive bel45 belE0 bel5 hbel hkn hlt HK
      go_wp2_with fail
      go_loopw [44, 45] (fun b i wx => b = .bool true ∧ (∃ k : Nat, k ≤ p ∧ i = .int .i64 k ∧ firstFrom F q p 0 = firstFrom F q (p - k) k) ∧ wx = w5) (fun _ i _ => p - (intOf i).toNat)
      case atStart => exact ⟨rfl, ⟨0, Nat.zero_le _, rfl, rfl⟩, rfl⟩
      case round =>
        obtain ⟨rfl, ⟨k, hkp, rfl, hfk⟩, rfl⟩ := hrel
        by_cases hlt : k < p
        · obtain ⟨g1, hb1, d1, f1⟩ := M1.at (show k < n0 by omega)
          subst hb1
          have hltI : (k : Int) < (p : Int) := by omega
          have hknI : (k : Int) < (n0 : Int) := by omega
          have hkF : keq (F k) q = ((S1 k).toList == q.toList) := by rw [HE.out.2]; rfl
          have HFK : Hid (firstFrom F q p 0 = firstFrom F q (p - k) k) := hfk
          clear hfk
          cases hkey : ((S1 k).toList == q.toList) with
          | true =>
            have hLeq : firstFrom F q n0 0 = o1 := by
              rw [HO.out, look_ins F q n0 p e hpn, look_old F q n0 p hpn, HFK.out, show p - k = (p - k - 1) + 1 by omega, firstFrom, hkF, hkey]
              rfl
            have hkF' : Hid (keq (F k) q = true) := by show _ = _; rw [hkF, hkey]
            clear hkF
            rw [hLeq] at hL2
            go_wp2_with fail
            refine hL2.mono ?_
            rintro x w6 ⟨rfl, bel6⟩
            simp only [ansV, ← HF.out.1, ← HF.out.2]
            clear hL2
            go_wp2_with fail
            go_ret
            exact ⟨rfl, belE.trans (bel6.mono belE.size)⟩
          | false =>
            have hnx : firstFrom F q p 0 = firstFrom F q (p - (k + 1)) (k + 1) := by
              rw [HFK.out, show p - k = (p - (k + 1)) + 1 by omega, firstFrom, hkF, hkey]
              rfl
            have HNX : Hid _ := hnx
            clear hkF hL2 hnx
            go_wp2_with fail
            exact ⟨⟨rfl, ⟨k + 1, by omega, by go_num, HNX.out⟩, by first | rfl | trivial⟩, by simp [intOf]; omega⟩
        · have hA : firstFrom F q p 0 = none := by rw [hfk, show p - k = 0 by omega]; rfl
          have hke : keq e q = (q.toList == ek.toList) := by
            rw [HE.out.1]; unfold keq; exact Bool.beq_comm
          cases hkey : (q.toList == ek.toList) with
          | true =>
            have ho1 : o1 = some ⟨en, ek, es, ew, ed⟩ := by
              rw [HO.out, look_ins F q n0 p e hpn, hA, hke, hkey, ← HE.out.1]
              rfl
            have hff : f = ⟨en, ek, es, ew, ed⟩ := by rw [HF.out.1, ho1]; rfl
            have hss : sb = true := by rw [HF.out.2, ho1]; rfl
            subst hff hss
            clear hfk hA hke ho1 hL2
            go_wp2_with fail
            go_ret
            exact ⟨rfl, belE⟩
          | false =>
            have hLeq : firstFrom F q n0 0 = o1 := by
              rw [HO.out, look_ins F q n0 p e hpn, look_old F q n0 p hpn, hA, hke, hkey]
              rfl
            clear hfk hA hke
            rw [hLeq] at hL2
            go_wp2_with fail
            refine hL2.mono ?_
            rintro x w6 ⟨rfl, bel6⟩
            simp only [ansV, ← HF.out.1, ← HF.out.2]
            clear hL2
            go_wp2_with fail
            go_ret
            exact ⟨rfl, belE.trans (bel6.mono belE.size)⟩

end Go.Proofs.Qxb6617665a.Ins
