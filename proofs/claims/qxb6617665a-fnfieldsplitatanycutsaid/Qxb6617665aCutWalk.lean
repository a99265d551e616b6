/-
  SEAT b6617665a. The walk of the law on a cut (function 4).
-/
import Derived.Test.Qxb6617665aPlain
import Derived.Test.Qxb6617665aRows5
import Derived.Deep.RegionWith

namespace Go.Proofs.Qxb6617665a.Cut

open Go.RowKit Go.Proofs.Qxb6617665a.Pre

theorem first_at (F : Nat → Pre.Fd) (q : ByteArray) : ∀ d n i, d < n → (∀ j, i ≤ j → j < i + d → keq (F j) q = false) → keq (F (i + d)) q = true → firstFrom F q n i = some (F (i + d))
  | 0, n + 1, i, _, _, hk => by rw [Nat.add_zero] at hk; rw [firstFrom, if_pos hk]; rfl
  | d + 1, n + 1, i, hd, h, hk => by
    rw [firstFrom, h i (Nat.le_refl _) (by omega)]
    have := first_at F q d n (i + 1) (by omega) (fun j h1 h2 => h j (by omega) (by omega)) (by rw [show i + 1 + d = i + (d + 1) by omega]; exact hk)
    rw [show i + 1 + d = i + (d + 1) by omega] at this
    simpa using this

theorem first_no (F : Nat → Pre.Fd) (q : ByteArray) : ∀ n i, (∀ j, i ≤ j → j < i + n → keq (F j) q = false) → firstFrom F q n i = none
  | 0, _, _ => rfl
  | n + 1, i, h => by
    rw [firstFrom, h i (Nat.le_refl _) (by omega)]
    simpa using first_no F q n (i + 1) (fun j h1 h2 => h j (by omega) (by omega))

set_option maxHeartbeats 16000000 in
set_option maxRecDepth 100000 in
theorem main_walk (a0 a1 a2 a3 a4 : Option Addr) (n0 c0 n1 c1 n2 c2 n3 c3 n4 c4 : Nat) (S0 S1 : Nat → ByteArray) (T2 T3 T4 : Nat → Int) (pz : Int) (q : ByteArray) (w : World)
    (h0 : RdF w a0 n0 (fun i => .string (S0 i))) (h1 : RdF w a1 n1 (fun i => .string (S1 i))) (h2 : RdF w a2 n2 (fun i => .int .i64 (T2 i))) (h3 : RdF w a3 n3 (fun i => .int .i64 (T3 i))) (h4 : RdF w a4 n4 (fun i => .int .u8 (T4 i)))
    (nil0 : a0 = none → n0 = 0 ∧ c0 = 0) (nil1 : a1 = none → n1 = 0 ∧ c1 = 0) (nil2 : a2 = none → n2 = 0 ∧ c2 = 0) (nil3 : a3 = none → n3 = 0 ∧ c3 = 0) (nil4 : a4 = none → n4 = 0 ∧ c4 = 0) :
    Calls Try.prog 4 #[.slice a0 n0 c0, .slice a1 n1 c1, .slice a2 n2 c2, .slice a3 n3 c3, .slice a4 n4 c4, .int .i64 pz, .string q] w
      fun e w' => e = .returned (.bool true) ∧ Below w.heap.size w w' := by
  go_enter Try.func4, Try.ntmps4
  go_wp2_with fail
  refine (bytes8 a0 a1 a2 a3 a4 n0 c0 n1 c1 n2 c2 n3 c3 n4 c4 S0 S1 pz q w h0 h1).mono ?_
  rintro x w1 ⟨⟨r, rfl⟩, rfl⟩
  cases r with
  | false =>
    go_wp2_with fail
    go_ret
    exact ⟨rfl, Below.refl _ _⟩
  | true =>
  go_wp2_with fail
  refine (ok_any a0 a1 a2 a3 a4 n0 c0 n1 c1 n2 c2 n3 c3 n4 c4 S0 S1 q ⟨#[]⟩ ⟨#[]⟩ w1 h0 h1).mono ?_
  rintro x w2 ⟨⟨r, rfl, hr⟩, rfl⟩
  cases r with
  | false =>
    go_wp2_with fail
    go_ret
    exact ⟨rfl, Below.refl _ _⟩
  | true =>
  obtain ⟨l0, l1, l2, l3, l4⟩ := hr rfl
  have bel := Below.refl w2.heap.size w2
  clear hr
  have hk := fun (w : World) => run_neq_slice_nil_any (P := Try.prog) w 22 9 a0 n0 c0 0 0 Try.underlying22
  go_upto_if 56 with fail
  go_cut [0, 15] from 57 to 63 (fun v z wx => ∃ b', v = .slice b' n0 n0 ∧ Mine wx b' n0 n0 (fun i => .string (S0 i)) ∧ Below w2.heap.size w2 wx)
  case first =>
    have NB : Hid (a0 = none → n0 = 0 ∧ c0 = 0) := nil0
    clear nil0 nil1 nil2 nil3 nil4
    cases a0 with
    | none =>
      go_wp2_with fail
      go_meet
      refine ⟨none, ?_, ⟨rfl, .inl ⟨rfl, (NB.out trivial).1⟩, h0⟩, Below.refl _ _⟩
      rw [(NB.out trivial).1, (NB.out trivial).2]
    | some x =>
      have hmk := run_make_row' (P := Try.prog) 22 9 (.string ⟨#[]⟩) 16 Try.underlying22 info9 rfl .i64 .i64 n0 (by omega) (by omega)
      obtain ⟨w3, hcp, hR, hB⟩ := copy_facts 22 9 (.string ⟨#[]⟩) 16 Try.underlying22 info9 x n0 c0 _ (fun _ => rfl) w2 h0
      go_wp2_with fail
      go_meet
      exact ⟨_, rfl, ⟨rfl, .inr ⟨_, rfl⟩, hR⟩, hB⟩
  case rest =>
  obtain ⟨b0, rfl, M0, belc⟩ := hcut
  rename World => v0
  replace h1 := h1.since belc
  replace h2 := h2.since belc
  replace h3 := h3.since belc
  replace h4 := h4.since belc
  replace bel := bel.trans (belc.mono bel.size)
  clear belc hk h0
  have hk := fun (w : World) => run_neq_slice_nil_any (P := Try.prog) w 22 9 a1 n1 c1 0 0 Try.underlying22
  go_upto_if 65 with fail
  go_cut [1, 16] from 66 to 72 (fun v z wx => ∃ b', v = .slice b' n1 n1 ∧ Mine wx b' n1 n1 (fun i => .string (S1 i)) ∧ Below v0.heap.size v0 wx)
  case first =>
    have NB : Hid (a1 = none → n1 = 0 ∧ c1 = 0) := nil1
    clear nil0 nil1 nil2 nil3 nil4
    cases a1 with
    | none =>
      go_wp2_with fail
      go_meet
      refine ⟨none, ?_, ⟨rfl, .inl ⟨rfl, (NB.out trivial).1⟩, h1⟩, Below.refl _ _⟩
      rw [(NB.out trivial).1, (NB.out trivial).2]
    | some x =>
      have hmk := run_make_row' (P := Try.prog) 22 9 (.string ⟨#[]⟩) 16 Try.underlying22 info9 rfl .i64 .i64 n1 (by omega) (by omega)
      obtain ⟨w3, hcp, hR, hB⟩ := copy_facts 22 9 (.string ⟨#[]⟩) 16 Try.underlying22 info9 x n1 c1 _ (fun _ => rfl) v0 h1
      go_wp2_with fail
      go_meet
      exact ⟨_, rfl, ⟨rfl, .inr ⟨_, rfl⟩, hR⟩, hB⟩
  case rest =>
  obtain ⟨b1, rfl, M1, belc⟩ := hcut
  rename World => v1
  replace M0 := M0.since belc
  replace h2 := h2.since belc
  replace h3 := h3.since belc
  replace h4 := h4.since belc
  replace bel := bel.trans (belc.mono bel.size)
  clear belc hk h1
  have hk := fun (w : World) => run_neq_slice_nil_any (P := Try.prog) w 23 3 a2 n2 c2 0 0 Try.underlying23
  go_upto_if 74 with fail
  go_cut [2, 17] from 75 to 81 (fun v z wx => ∃ b', v = .slice b' n2 n2 ∧ Mine wx b' n2 n2 (fun i => .int .i64 (T2 i)) ∧ Below v1.heap.size v1 wx)
  case first =>
    have NB : Hid (a2 = none → n2 = 0 ∧ c2 = 0) := nil2
    clear nil0 nil1 nil2 nil3 nil4
    cases a2 with
    | none =>
      go_wp2_with fail
      go_meet
      refine ⟨none, ?_, ⟨rfl, .inl ⟨rfl, (NB.out trivial).1⟩, h2⟩, Below.refl _ _⟩
      rw [(NB.out trivial).1, (NB.out trivial).2]
    | some x =>
      have hmk := run_make_row' (P := Try.prog) 23 3 (.int .i64 0) 8 Try.underlying23 info3 rfl .i64 .i64 n2 (by omega) (by omega)
      obtain ⟨w3, hcp, hR, hB⟩ := copy_facts 23 3 (.int .i64 0) 8 Try.underlying23 info3 x n2 c2 _ (fun _ => rfl) v1 h2
      go_wp2_with fail
      go_meet
      exact ⟨_, rfl, ⟨rfl, .inr ⟨_, rfl⟩, hR⟩, hB⟩
  case rest =>
  obtain ⟨b2, rfl, M2, belc⟩ := hcut
  rename World => v2
  replace M0 := M0.since belc
  replace M1 := M1.since belc
  replace h3 := h3.since belc
  replace h4 := h4.since belc
  replace bel := bel.trans (belc.mono bel.size)
  clear belc hk h2
  have hk := fun (w : World) => run_neq_slice_nil_any (P := Try.prog) w 23 3 a3 n3 c3 0 0 Try.underlying23
  go_upto_if 83 with fail
  go_cut [3, 18] from 84 to 90 (fun v z wx => ∃ b', v = .slice b' n3 n3 ∧ Mine wx b' n3 n3 (fun i => .int .i64 (T3 i)) ∧ Below v2.heap.size v2 wx)
  case first =>
    have NB : Hid (a3 = none → n3 = 0 ∧ c3 = 0) := nil3
    clear nil0 nil1 nil2 nil3 nil4
    cases a3 with
    | none =>
      go_wp2_with fail
      go_meet
      refine ⟨none, ?_, ⟨rfl, .inl ⟨rfl, (NB.out trivial).1⟩, h3⟩, Below.refl _ _⟩
      rw [(NB.out trivial).1, (NB.out trivial).2]
    | some x =>
      have hmk := run_make_row' (P := Try.prog) 23 3 (.int .i64 0) 8 Try.underlying23 info3 rfl .i64 .i64 n3 (by omega) (by omega)
      obtain ⟨w3, hcp, hR, hB⟩ := copy_facts 23 3 (.int .i64 0) 8 Try.underlying23 info3 x n3 c3 _ (fun _ => rfl) v2 h3
      go_wp2_with fail
      go_meet
      exact ⟨_, rfl, ⟨rfl, .inr ⟨_, rfl⟩, hR⟩, hB⟩
  case rest =>
  obtain ⟨b3, rfl, M3, belc⟩ := hcut
  rename World => v3
  replace M0 := M0.since belc
  replace M1 := M1.since belc
  replace M2 := M2.since belc
  replace h4 := h4.since belc
  replace bel := bel.trans (belc.mono bel.size)
  clear belc hk h3
  have hk := fun (w : World) => run_neq_slice_nil_any (P := Try.prog) w 24 5 a4 n4 c4 0 0 Try.underlying24
  go_upto_if 92 with fail
  go_cut [4, 19] from 93 to 99 (fun v z wx => ∃ b', v = .slice b' n4 n4 ∧ Mine wx b' n4 n4 (fun i => .int .u8 (T4 i)) ∧ Below v3.heap.size v3 wx)
  case first =>
    have NB : Hid (a4 = none → n4 = 0 ∧ c4 = 0) := nil4
    clear nil0 nil1 nil2 nil3 nil4
    cases a4 with
    | none =>
      go_wp2_with fail
      go_meet
      refine ⟨none, ?_, ⟨rfl, .inl ⟨rfl, (NB.out trivial).1⟩, h4⟩, Below.refl _ _⟩
      rw [(NB.out trivial).1, (NB.out trivial).2]
    | some x =>
      have hmk := run_make_row' (P := Try.prog) 24 5 (.int .u8 0) 1 Try.underlying24 info5 rfl .i64 .i64 n4 (by omega) (by omega)
      obtain ⟨w3, hcp, hR, hB⟩ := copy_facts 24 5 (.int .u8 0) 1 Try.underlying24 info5 x n4 c4 _ (fun _ => rfl) v3 h4
      go_wp2_with fail
      go_meet
      exact ⟨_, rfl, ⟨rfl, .inr ⟨_, rfl⟩, hR⟩, hB⟩
  case rest =>
  obtain ⟨b4, rfl, M4, belc⟩ := hcut
  rename World => v4
  replace M0 := M0.since belc
  replace M1 := M1.since belc
  replace M2 := M2.since belc
  replace M3 := M3.since belc
  replace bel := bel.trans (belc.mono bel.size)
  clear belc hk h4
  clear nil0 nil1 nil2 nil3 nil4
  by_cases e0 : n0 = n1
  case neg =>
    have t0 : ((n0 : Int) != (n1 : Int)) = true := by rw [bne_iff_ne]; omega
    go_wp2_with fail
    go_ret
    exact ⟨rfl, bel⟩
  subst n1
  by_cases e2 : n2 = n0
  case neg =>
    have t0 : ((n0 : Int) != (n0 : Int)) = false := by simp
    have t2 : ((n2 : Int) != (n0 : Int)) = true := by rw [bne_iff_ne]; omega
    go_wp2_with fail
    go_ret
    exact ⟨rfl, bel⟩
  subst n2
  by_cases e3 : n3 = n0
  case neg =>
    have t0 : ((n0 : Int) != (n0 : Int)) = false := by simp
    have t2 : ((n3 : Int) != (n0 : Int)) = true := by rw [bne_iff_ne]; omega
    go_wp2_with fail
    go_ret
    exact ⟨rfl, bel⟩
  subst n3
  by_cases e4 : n4 = n0
  case neg =>
    have t0 : ((n0 : Int) != (n0 : Int)) = false := by simp
    have t2 : ((n4 : Int) != (n0 : Int)) = true := by rw [bne_iff_ne]; omega
    go_wp2_with fail
    go_ret
    exact ⟨rfl, bel⟩
  subst n4
  have t0 : ((n0 : Int) != (n0 : Int)) = false := by simp
  by_cases p0 : pz < 0
  · go_wp2_with fail
    go_ret
    exact ⟨rfl, bel⟩
  by_cases p1 : (n0 : Int) < pz
  · go_wp2_with fail
    go_ret
    exact ⟨rfl, bel⟩
  obtain ⟨p, hp⟩ : ∃ p : Nat, pz = (p : Int) := ⟨pz.toNat, by omega⟩
  subst hp
  have hpn : p ≤ n0 := by omega
  have p0 : ¬ ((p : Int) < 0) := by omega
  obtain ⟨m, hm⟩ : ∃ m, n0 = p + m := ⟨n0 - p, by omega⟩
  subst hm
  obtain ⟨F, hF⟩ : ∃ F : Nat → Pre.Fd, F = fun i => ⟨S0 i, S1 i, T2 i, T3 i, T4 i⟩ := ⟨_, rfl⟩
  have HE : Hid (F = fun i => ⟨S0 i, S1 i, T2 i, T3 i, T4 i⟩) := hF
  have hFive : Five v4 b0 b1 b2 b3 b4 (p + m) F := by
    rw [hF]
    exact ⟨M0.2.2, M1.2.2, M2.2.2, M3.2.2, M4.2.2⟩
  have HM : Hid (Mine v4 b0 (p + m) (p + m) (fun i => .string (S0 i)) ∧ Mine v4 b1 (p + m) (p + m) (fun i => .string (S1 i)) ∧ Mine v4 b2 (p + m) (p + m) (fun i => .int .i64 (T2 i)) ∧ Mine v4 b3 (p + m) (p + m) (fun i => .int .i64 (T3 i)) ∧ Mine v4 b4 (p + m) (p + m) (fun i => .int .u8 (T4 i))) := ⟨M0, M1, M2, M3, M4⟩
  have hL := look_any b0 b1 b2 b3 b4 (p + m) (p + m) (p + m) (p + m) (p + m) (p + m) F q (by omega) v4 hFive
  obtain ⟨o1, ho1⟩ : ∃ o, o = firstFrom F q (p + m) 0 := ⟨_, rfl⟩
  rw [← ho1] at hL
  have HO : Hid _ := ho1
  have HV : Hid (Five v4 b0 b1 b2 b3 b4 (p + m) F) := hFive
  clear M0 M1 M2 M3 M4 hF ho1 hFive
  have p1' : ¬ ((p : Int) + (m : Int) < (p : Int)) := by omega
  go_wp2_with fail
  refine hL.mono ?_
  rintro x w5 ⟨rfl, bel5⟩
  obtain ⟨f, hf⟩ : ∃ f, f = o1.getD Pre.Fd.zero := ⟨_, rfl⟩
  obtain ⟨sb, hsb⟩ : ∃ b, b = o1.isSome := ⟨_, rfl⟩
  simp only [ansV, ← hf, ← hsb]
  have HF : Hid (f = o1.getD Pre.Fd.zero ∧ sb = o1.isSome) := ⟨hf, hsb⟩
  have belE5 := bel.trans (bel5.mono bel.size)
  have V5 := HV.out.since bel5
  clear hf hsb hL
  have k0 : (0 : Int) ≤ (p : Int) := by omega
  have k1 : (p : Int) ≤ (p : Int) + (m : Int) := by omega
  have V5p : Five w5.drew b0 b1 b2 b3 b4 p F := ⟨V5.r0.take (by omega), V5.r1.take (by omega), V5.r2.take (by omega), V5.r3.take (by omega), V5.r4.take (by omega)⟩
  have hL2 := look_any b0 b1 b2 b3 b4 p (p + m) (p + m) (p + m) (p + m) (p + m) F q (by omega) w5.drew V5p
  obtain ⟨o2, ho2⟩ : ∃ o, o = firstFrom F q p 0 := ⟨_, rfl⟩
  rw [← ho2] at hL2
  have HO2 : Hid _ := ho2
  obtain ⟨f2, hf2⟩ : ∃ f, f = o2.getD Pre.Fd.zero := ⟨_, rfl⟩
  obtain ⟨sb2, hsb2⟩ : ∃ b, b = o2.isSome := ⟨_, rfl⟩
  simp only [ansV, ← hf2, ← hsb2] at hL2
  have HF2 : Hid (f2 = o2.getD Pre.Fd.zero ∧ sb2 = o2.isSome) := ⟨hf2, hsb2⟩
  clear hf2 hsb2
  have HW5 : Hid (Five w5 b0 b1 b2 b3 b4 (p + m) F) := V5
  have HB5 : Hid (Below v4.heap.size v4 w5) := bel5
  clear ho2 V5 V5p bel bel5
  go_upto_region 31 with fail
  go_region_with (go_at_call 7; refine hL2.mono ?_; rintro x w6 ⟨rfl, bel6⟩)
  have bel6' : Below w5.heap.size w5 w6 := ⟨bel6.os, bel6.tape, bel6.output, bel6.size, bel6.block⟩
  have HE6 : Hid (Below w2.heap.size w2 w6 ∧ Below v4.heap.size v4 w6) := ⟨belE5.trans (bel6'.mono belE5.size), HB5.out.trans (bel6'.mono HB5.out.size)⟩
  have V6 := HW5.out.since bel6'
  clear bel6 bel6' belE5 hL2
  go_upto_if 170 with fail
  go_cut [27, 28, 29, 30, 31, 32] from 171 to 194 (fun s1 s2 s3 s4 s5 s6 wx => s1 = .string f.name ∧ s2 = .string f.key ∧ s3 = .int .i64 f.start ∧ s4 = .int .i64 f.width ∧ s5 = .int .u8 f.kind ∧ s6 = .bool sb ∧ Below w6.heap.size w6 wx)
  case first =>
    have hold := look_old F q (p + m) p (by omega)
    rw [← HO.out, ← HO2.out, show p + m - p = m by omega] at hold
    cases o2 with
    | some g =>
      have e1 : o1 = some g := hold
      have e2 : f2 = f := by rw [HF2.out.1, HF.out.1, e1]
      have e3 : sb2 = true := by rw [HF2.out.2]; rfl
      have e4 : sb = true := by rw [HF.out.2, e1]; rfl
      subst e2 e3 e4
      clear hold e1
      go_wp2_with fail
      go_meet
      exact ⟨rfl, rfl, rfl, rfl, rfl, rfl, Below.refl _ _⟩
    | none =>
      have e1 : o1 = firstFrom F q m p := hold
      have e3 : sb2 = false := by rw [HF2.out.2]; rfl
      subst e3
      by_cases hm0 : m = 0
      · subst hm0
        have hL3 := look_any b0 b1 b2 b3 b4 0 0 0 0 0 0 F q (by omega) w6.drew ⟨.inl rfl, .inl rfl, .inl rfl, .inl rfl, .inl rfl⟩
        rw [show firstFrom F q 0 0 = o1 from e1.symm] at hL3
        clear hold e1
        simp only [ansV, ← HF.out.1, ← HF.out.2] at hL3
        go_upto_region 33 with fail
        go_region_with (go_at_call 7; refine hL3.mono ?_; rintro x w7 ⟨rfl, bel7⟩)
        go_simp
        go_step
        go_meet
        exact ⟨rfl, rfl, rfl, rfl, rfl, rfl, ⟨bel7.os, bel7.tape, bel7.output, bel7.size, bel7.block⟩⟩
      · obtain ⟨g0, rfl, -, -⟩ := HM.out.1.at (show 0 < p + m by omega)
        obtain ⟨g1, rfl, -, -⟩ := HM.out.2.1.at (show 0 < p + m by omega)
        obtain ⟨g2, rfl, -, -⟩ := HM.out.2.2.1.at (show 0 < p + m by omega)
        obtain ⟨g3, rfl, -, -⟩ := HM.out.2.2.2.1.at (show 0 < p + m by omega)
        obtain ⟨g4, rfl, -, -⟩ := HM.out.2.2.2.2.at (show 0 < p + m by omega)
        have V6d : Five w6.drew (some ⟨g0, p, none⟩) (some ⟨g1, p, none⟩) (some ⟨g2, p, none⟩) (some ⟨g3, p, none⟩) (some ⟨g4, p, none⟩) m (fun i => F (p + i)) := by
          have d0 := V6.r0.drop (k := p) (by omega)
          have d1 := V6.r1.drop (k := p) (by omega)
          have d2 := V6.r2.drop (k := p) (by omega)
          have d3 := V6.r3.drop (k := p) (by omega)
          have d4 := V6.r4.drop (k := p) (by omega)
          rw [Nat.zero_add, show p + m - p = m by omega] at d0 d1 d2 d3 d4
          exact ⟨d0, d1, d2, d3, d4⟩
        have hL3 := look_any _ _ _ _ _ m m m m m m (fun i => F (p + i)) q (by omega) w6.drew V6d
        have hsh : firstFrom (fun i => F (p + i)) q m (0 + 0) = firstFrom F q m (p + 0) := first_shift _ _ q 0 p m 0 (fun j _ _ => by rw [Nat.zero_add])
        rw [Nat.add_zero, Nat.add_zero] at hsh
        rw [hsh, ← e1] at hL3
        have hpm : p + m - p = m := by omega
        have hmI : ¬ ((p : Int) + (m : Int) = (p : Int)) := by omega
        clear hold e1 V6d hsh V6
        simp only [ansV, ← HF.out.1, ← HF.out.2] at hL3
        go_upto_region 33 with fail
        go_region_with (go_at_call 7; refine hL3.mono ?_; rintro x w7 ⟨rfl, bel7⟩)
        go_simp
        go_step
        go_meet
        exact ⟨rfl, rfl, rfl, rfl, rfl, rfl, ⟨bel7.os, bel7.tape, bel7.output, bel7.size, bel7.block⟩⟩
  case rest =>
  obtain ⟨rfl, rfl, rfl, rfl, rfl, rfl, belc⟩ := hcut
  have M0 := HM.out.1.since (HE6.out.2.trans (belc.mono HE6.out.2.size))
  have M1 := HM.out.2.1.since (HE6.out.2.trans (belc.mono HE6.out.2.size))
  have M2 := HM.out.2.2.1.since (HE6.out.2.trans (belc.mono HE6.out.2.size))
  have M3 := HM.out.2.2.2.1.since (HE6.out.2.trans (belc.mono HE6.out.2.size))
  have M4 := HM.out.2.2.2.2.since (HE6.out.2.trans (belc.mono HE6.out.2.size))
  have HEc : Hid (Below w2.heap.size w2 wc) := HE6.out.1.trans (belc.mono HE6.out.1.size)
  have z1 : (f.name.toList == f.name.toList) = true := by simp
  have z2 : (f.key.toList == f.key.toList) = true := by simp
  have z3 : (f.start == f.start) = true := by simp
  have z4 : (f.width == f.width) = true := by simp
  have z5 : (f.kind == f.kind) = true := by simp
  have z6 : (sb == sb) = true := by simp
  clear belc V6 HF2 HO2 HE6 HB5 HW5 HM HV k0 k1 p1'
  go_wp2_with fail
  go_loopw [34, 35] (fun b i wx => b = .bool false ∧ (∃ k : Nat, k ≤ p + m ∧ i = .int .i64 k ∧ ∀ j, j < k → keq (F j) q = false) ∧ wx = wc) (fun _ i _ => (p + m) - (intOf i).toNat)
  case atStart => exact ⟨rfl, ⟨0, Nat.zero_le _, rfl, fun j h => by omega⟩, rfl⟩
  case round =>
    obtain ⟨rfl, ⟨k, hkn, rfl, hall⟩, rfl⟩ := hrel
    have HALL : Hid (∀ j, j < k → keq (F j) q = false) := hall
    clear hall
    by_cases hlt : k < p + m
    · obtain ⟨g1, hb1, d1, -⟩ := M1.at hlt
      subst hb1
      have hkF : keq (F k) q = ((S1 k).toList == q.toList) := by rw [HE.out]; rfl
      have hltI : (k : Int) < (p : Int) + (m : Int) := by omega
      cases hkey : ((S1 k).toList == q.toList) with
      | true =>
        have ho1 : o1 = some ⟨S0 k, S1 k, T2 k, T3 k, T4 k⟩ := by
          rw [HO.out, first_at F q k (p + m) 0 hlt (fun j _ h => HALL.out j (by omega)) (by rw [Nat.zero_add, hkF, hkey]), Nat.zero_add, HE.out]
        have hff : f = ⟨S0 k, S1 k, T2 k, T3 k, T4 k⟩ := by rw [HF.out.1, ho1]; rfl
        have hss : sb = true := by rw [HF.out.2, ho1]; rfl
        subst hff hss
        obtain ⟨g0, hb0, d0, -⟩ := M0.at hlt
        obtain ⟨g2, hb2, d2, -⟩ := M2.at hlt
        obtain ⟨g3, hb3, d3, -⟩ := M3.at hlt
        obtain ⟨g4, hb4, d4, -⟩ := M4.at hlt
        subst hb0 hb2 hb3 hb4
        clear hkF ho1 M0 M2 M3 M4
        go_wp2_with fail
        go_loopw [36, 37] (fun b i wx => b = .bool false ∧ (∃ j : Nat, j ≤ k ∧ i = .int .i64 j) ∧ wx = wr) (fun _ i _ => k + 1 - (intOf i).toNat)
        case atStart => exact ⟨rfl, ⟨0, Nat.zero_le _, rfl⟩, rfl⟩
        case round =>
          obtain ⟨rfl, ⟨j, hjk, rfl⟩, rfl⟩ := hrel
          by_cases hj : j < k
          · obtain ⟨g, hg, dj, -⟩ := M1.at (show j < p + m by omega)
            cases hg
            have hkj : ((S1 j).toList == q.toList) = false := by
              have := HALL.out j hj
              rw [HE.out] at this
              exact this
            have hjI : (j : Int) < (p : Int) + (m : Int) := by omega
            clear M1
            go_wp2_with fail
            exact ⟨⟨rfl, ⟨j + 1, by omega, by go_num⟩, by first | rfl | trivial⟩, by simp [intOf]; omega⟩
          · have hjk2 : j = k := by omega
            subst hjk2
            clear M1 hj hjk
            go_wp2_with fail
            go_ret
            exact ⟨rfl, HEc.out⟩
      | false =>
        have hall' : ∀ j, j < k + 1 → keq (F j) q = false := fun j hj => by
          by_cases e : j = k
          · subst e; rw [hkF, hkey]
          · exact HALL.out j (by omega)
        have HALL2 : Hid _ := hall'
        clear hkF hall' M0 M1 M2 M3 M4
        go_wp2_with fail
        exact ⟨⟨rfl, ⟨k + 1, by omega, by go_num, HALL2.out⟩, by first | rfl | trivial⟩, by simp [intOf]; omega⟩
    · have ho1 : o1 = none := by rw [HO.out]; exact first_no F q (p + m) 0 (fun j _ h => HALL.out j (by omega))
      have hff : f = ⟨⟨#[]⟩, ⟨#[]⟩, 0, 0, 0⟩ := by rw [HF.out.1, ho1]; rfl
      have hss : sb = false := by rw [HF.out.2, ho1]; rfl
      subst hff hss
      clear ho1 M0 M1 M2 M3 M4
      go_wp2_with fail
      go_ret
      exact ⟨rfl, HEc.out⟩

end Go.Proofs.Qxb6617665a.Cut
