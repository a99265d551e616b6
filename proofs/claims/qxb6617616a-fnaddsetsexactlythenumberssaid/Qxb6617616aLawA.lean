/-
  SEAT b6617616a. The walk of the law (function 3).
-/
import Derived.Test.Qxb6617616aSet

namespace Go.Proofs.Qxb6617616a.Law

open Go.RowKit Go.Proofs.Qxb6617616a.Pre

theorem own_mono {w : World} {B B' n : Nat} {v : Value} {X : List Value} (h : w.ownsRow B 29 1 v n X) (hB : B' ≤ B) : w.ownsRow B' 29 1 v n X := by
  obtain ⟨h1, h2 | ⟨g, cap, cur, hv, hg, r⟩⟩ := h
  · exact ⟨h1, .inl h2⟩
  · exact ⟨h1, .inr ⟨g, cap, cur, hv, Nat.le_trans hB hg, r⟩⟩

theorem own_keep {w w' : World} {B B' n : Nat} {v : Value} {X : List Value} (h : w.ownsRow B 29 1 v n X) (hb : Below B' w w') (hB : w.heap.size ≤ B') : w'.ownsRow B 29 1 v n X := by
  have hg : w.grownBy w' none := ⟨hb.os, hb.tape, hb.output, hb.size, fun k hk _ => hb.block k (by omega)⟩
  exact h.kept hg (by cases v.ownBlock <;> simp)

theorem two_of {w0 w1 w2 : World} {v u : Value} {xs ys : List Nat} (h1 : w1.ownsRow w0.heap.size 29 1 v xs.length (wl xs)) (h2 : w2.ownsRow w1.heap.size 29 1 u ys.length (wl ys)) (hb1 : Below w0.heap.size w0 w1) (hb2 : Below w1.heap.size w1 w2) :
    Two w2 w0.heap.size v u xs ys := by
  refine ⟨own_keep h1 hb2 (Nat.le_refl _), own_mono h2 hb1.size, fun k hv hu => ?_⟩
  have e1 := (h1.lt k hv).2
  have e2 := (h2.lt k hu).1
  omega

theorem bit_walk (V y : Nat) (hV : V < 18446744073709551616) : (bits .and .u64 ((V : Int) / 2 ^ y) 1 == 1) = bitOf V y := by
  have h1 : V / 2 ^ y ≤ V := Nat.div_le_self _ _
  have e : (V : Int) / 2 ^ y = ((V / 2 ^ y : Nat) : Int) := by simp
  have h2 := bits_and_u64_nat (V / 2 ^ y) 1 (by omega) (by omega)
  rw [e, show (1 : Int) = ((1 : Nat) : Int) from rfl, h2, Nat.and_one_is_mod]
  unfold bitOf
  rcases Nat.mod_two_eq_zero_or_one (V / 2 ^ y) with h | h <;> rw [h] <;> rfl

/-- What the law asks of one bit: the ways that stand. -/
theorem bit_cases (xs : List Nat) (i j x y : Nat) (hy : y < 64) (V U : Nat) (hV : V = (addW (addW xs i) j).getD x 0) (hU : U = xs.getD x 0) :
    (bitOf V y = true ∧ bitOf U y = true) ∨ (bitOf U y = false ∧ bitOf V y = true ∧ 64 * x + y = i) ∨ (bitOf U y = false ∧ bitOf V y = true ∧ 64 * x + y ≠ i ∧ 64 * x + y = j) ∨
      (bitOf U y = false ∧ bitOf V y = false ∧ 64 * x + y ≠ i ∧ 64 * x + y ≠ j) := by
  have h := bits_law xs i j x y hy
  rw [← hV, ← hU] at h
  cases hu : bitOf U y with
  | true => rw [hu] at h; simp at h; exact .inl ⟨h, rfl⟩
  | false =>
    rw [hu] at h
    by_cases h1 : 64 * x + y = i
    · simp [h1] at h; exact .inr (.inl ⟨rfl, h, h1⟩)
    · by_cases h2 : 64 * x + y = j
      · simp [h2] at h; exact .inr (.inr (.inl ⟨rfl, h, h1, h2⟩))
      · simp [h1, h2] at h; exact .inr (.inr (.inr ⟨rfl, h, h1, h2⟩))

theorem bitOf_zero (y : Nat) : bitOf 0 y = false := by unfold bitOf; simp

set_option maxHeartbeats 8000000 in
set_option maxRecDepth 100000 in
theorem main_walk (a : Option Addr) (n c : Nat) (xs : List Nat) (b : Option Addr) (m d : Nat) (ys : List Nat) (i j : Nat) (w : World)
    (ha : Rd w a (wl xs)) (hb : Rd w b (wl ys)) (na : a = none → n = 0) (nb : b = none → m = 0) (hxs : xs.length = n) (hys : ys.length = m) (hn : n ≤ 65536) (hm : m ≤ 65536) (hi : i < 4194304) (hj : j < 4194304)
    (fx : Fits xs) (fy : Fits ys) :
    Calls Try.prog 3 #[.slice a n c, .slice b m d, .int .i64 i, .int .i64 j] w fun e w' => e = .returned (.bool true) ∧ Below w.heap.size w w' := by
  have i1 : ¬ ((1048576 : Int) < (n : Int)) := by omega
  have i2 : ¬ ((1048576 : Int) < (m : Int)) := by omega
  have i3 : ¬ ((1048576 : Int) < (n : Int) + (m : Int)) := by omega
  have i4 : ¬ ((65536 : Int) < (n : Int)) := by omega
  have i5 : ¬ ((65536 : Int) < (m : Int)) := by omega
  have i6 : ¬ ((i : Int) < 0) := by omega
  have i7 : ¬ ((4194304 : Int) ≤ (i : Int)) := by omega
  have i8 : ¬ ((j : Int) < 0) := by omega
  have i9 : ¬ ((4194304 : Int) ≤ (j : Int)) := by omega
  go_enter Try.func3, Try.ntmps3
  go_wp2_with (first | (go_at_call 4; go_in))
  clear i1 i2 i3 i4 i5 i6 i7 i8 i9
  refine (clone_own a n c xs hxs (by omega) na _ ha).mono ?_
  rintro e w1 ⟨v1, rfl, own1, bel1⟩
  obtain ⟨a1, c1, rfl, -, n1, -, rd1, -⟩ := owns_rd own1
  have hb1 := hb.since bel1
  clear ha hb own1
  go_wp2_with fail
  refine (clone_own b m d ys hys (by omega) nb _ hb1).mono ?_
  rintro e w2 ⟨v2, rfl, own2, bel2⟩
  obtain ⟨a2, c2, rfl, -, n2, -, rd2, -⟩ := owns_rd own2
  have rd12 := rd1.since bel2
  have belE2 := bel1.trans (bel2.mono bel1.size)
  clear hb1 own2 rd1 bel1 bel2
  -- the first set
  go_wp2_with fail
  refine (clone_own a1 n c1 xs hxs (by omega) (fun h => (n1 h).1) _ rd12).mono ?_
  rintro e w3 ⟨v3, rfl, own3, bel3⟩
  have rd23 := rd2.since bel3
  go_wp2_with fail
  refine (clone_own a2 m c2 ys hys (by omega) (fun h => (n2 h).1) _ rd23).mono ?_
  rintro e w4 ⟨v4, rfl, own4, bel4⟩
  rw [← hxs] at own3
  rw [← hys] at own4
  have T4 := two_of own3 own4 bel3 bel4
  have belA := bel3.trans (bel4.mono bel3.size)
  have hS := set_any w2.heap.size i v3 v4 xs ys fx fy (by omega) (by omega) hi w4 T4 belA.size
  clear own3 own4 bel3 bel4 T4 rd23
  go_wp2_with fail
  refine hS.mono ?_
  rintro e w5 ⟨v5, v6, rfl, T5, bel5⟩
  have hS2 := set_any w2.heap.size j v5 v6 _ _ (fx.add i) (fy.add (i / 64)) (by rw [addW_length]; omega) (by rw [addW_length]; omega) hj w5 T5 (Nat.le_trans belA.size bel5.size)
  clear hS T5
  go_wp2_with fail
  refine hS2.mono ?_
  rintro e w6 ⟨va, ua, rfl, TA, bel6⟩
  have belA6 := (belA.trans bel5).trans bel6
  have rd16 := rd12.since belA6
  have rd26 := rd2.since belA6
  have belE6 := belE2.trans (belA6.mono belE2.size)
  clear hS2 rd12 rd2 belA bel5 bel6
  -- the second set
  go_wp2_with fail
  refine (clone_own a1 n c1 xs hxs (by omega) (fun h => (n1 h).1) _ rd16).mono ?_
  rintro e w7 ⟨v7, rfl, own7, bel7⟩
  have rd27 := rd26.since bel7
  go_wp2_with fail
  refine (clone_own a2 m c2 ys hys (by omega) (fun h => (n2 h).1) _ rd27).mono ?_
  rintro e w8 ⟨v8, rfl, own8, bel8⟩
  rw [← hxs] at own7
  rw [← hys] at own8
  have T8 := two_of own7 own8 bel7 bel8
  have belB := bel7.trans (bel8.mono bel7.size)
  have hS := set_any w6.heap.size j v7 v8 xs ys fx fy (by omega) (by omega) hj w8 T8 belB.size
  clear own7 own8 bel7 bel8 T8 rd27
  go_wp2_with fail
  refine hS.mono ?_
  rintro e w9 ⟨v9, v10, rfl, T9, bel9⟩
  have hS2 := set_any w6.heap.size i v9 v10 _ _ (fx.add j) (fy.add (j / 64)) (by rw [addW_length]; omega) (by rw [addW_length]; omega) hi w9 T9 (Nat.le_trans belB.size bel9.size)
  clear hS T9
  go_wp2_with fail
  refine hS2.mono ?_
  rintro e w10 ⟨vb, ub, rfl, TB, bel10⟩
  rw [addW_comm xs j i, addW_comm ys (j / 64) (i / 64)] at TB
  have belB10 := (belB.trans bel9).trans bel10
  have TA10 := TA.keep belB10 (Nat.le_refl _)
  have rd110 := rd16.since belB10
  have rd210 := rd26.since belB10
  have belE10 := belE6.trans (belB10.mono belE6.size)
  clear hS2 rd16 rd26 belB bel9 bel10 TA
  -- the third set
  go_wp2_with fail
  refine (clone_own a1 n c1 xs hxs (by omega) (fun h => (n1 h).1) _ rd110).mono ?_
  rintro e w11 ⟨v11, rfl, own11, bel11⟩
  have rd211 := rd210.since bel11
  go_wp2_with fail
  refine (clone_own a2 m c2 ys hys (by omega) (fun h => (n2 h).1) _ rd211).mono ?_
  rintro e w12 ⟨v12, rfl, own12, bel12⟩
  rw [← hxs] at own11
  rw [← hys] at own12
  have T12 := two_of own11 own12 bel11 bel12
  have belC := bel11.trans (bel12.mono bel11.size)
  have hS := set_any w10.heap.size i v11 v12 xs ys fx fy (by omega) (by omega) hi w12 T12 belC.size
  clear own11 own12 bel11 bel12 T12 rd211
  go_wp2_with fail
  refine hS.mono ?_
  rintro e w13 ⟨v13, v14, rfl, T13, bel13⟩
  have hS2 := set_any w10.heap.size i v13 v14 _ _ (fx.add i) (fy.add (i / 64)) (by rw [addW_length]; omega) (by rw [addW_length]; omega) hi w13 T13 (Nat.le_trans belC.size bel13.size)
  rw [addW_twice xs i, addW_twice ys (i / 64)] at hS2
  clear hS T13
  go_wp2_with fail
  refine hS2.mono ?_
  rintro e w14 ⟨v15, v16, rfl, T14, bel14⟩
  have hS3 := set_any w10.heap.size j v15 v16 _ _ (fx.add i) (fy.add (i / 64)) (by rw [addW_length]; omega) (by rw [addW_length]; omega) hj w14 T14 (Nat.le_trans (Nat.le_trans belC.size bel13.size) bel14.size)
  clear hS2 T14
  go_wp2_with fail
  refine hS3.mono ?_
  rintro e w15 ⟨vc, uc, rfl, TC, bel15⟩
  have belC15 := ((belC.trans bel13).trans bel14).trans bel15
  have TA15 := TA10.keep belC15 (Nat.le_refl _)
  have TB15 := TB.keep belC15 (Nat.le_refl _)
  have rd115 := rd110.since belC15
  have rd215 := rd210.since belC15
  have belE15 := belE10.trans (belC15.mono belE10.size)
  clear hS3 rd110 rd210 belC bel13 bel14 bel15 TA10 TB belC15 belB10 belA6 belE10 belE6 belE2
  obtain ⟨xf, hxf⟩ : ∃ x, x = addW (addW xs i) j := ⟨_, rfl⟩
  obtain ⟨yf, hyf⟩ : ∃ y, y = addW (addW ys (i / 64)) (j / 64) := ⟨_, rfl⟩
  rw [← hxf, ← hyf] at TA15 TB15 TC
  obtain ⟨aa, ca, rfl, -, -, -, rda, -⟩ := owns_rd TA15.ow
  obtain ⟨aa', ca', rfl, -, -, -, rda', -⟩ := owns_rd TA15.ou
  obtain ⟨ab, cb, rfl, -, -, -, rdb, -⟩ := owns_rd TB15.ow
  obtain ⟨ab', cb', rfl, -, -, -, rdb', -⟩ := owns_rd TB15.ou
  obtain ⟨ac, cc, rfl, -, -, -, rdc, -⟩ := owns_rd TC.ow
  obtain ⟨ac', cc', rfl, -, -, -, rdc', -⟩ := owns_rd TC.ou
  have hlx : xf.length = max (max n (i / 64 + 1)) (j / 64 + 1) := by rw [hxf, addW_length, addW_length, hxs]
  have hly : yf.length = max (max m (i / 4096 + 1)) (j / 4096 + 1) := by rw [hyf, addW_length, addW_length, hys]; omega
  obtain ⟨N, hN⟩ : ∃ N, N = xf.length := ⟨_, rfl⟩
  obtain ⟨M, hM⟩ : ∃ M, M = yf.length := ⟨_, rfl⟩
  rw [← hN] at hlx
  rw [← hM] at hly
  simp only [← hN, ← hM]
  have hNb : N ≤ 131072 := by omega
  have hMb : M ≤ 131072 := by omega
  clear TA15 TB15 TC
  obtain ⟨qi, hqi⟩ : ∃ q, q = i / 64 := ⟨_, rfl⟩
  obtain ⟨qj, hqj⟩ : ∃ q, q = j / 64 := ⟨_, rfl⟩
  obtain ⟨ri, hri⟩ : ∃ q, q = i / 4096 := ⟨_, rfl⟩
  obtain ⟨rj, hrj⟩ : ∃ q, q = j / 4096 := ⟨_, rfl⟩
  have Hqi : (i : Int) / 64 = (qi : Int) := by omega
  have Hqj : (j : Int) / 64 = (qj : Int) := by omega
  have Hri : (i : Int) / 4096 = (ri : Int) := by omega
  have Hrj : (j : Int) / 4096 = (rj : Int) := by omega
  have HNM : Hid (((max (max (n : Int) ((qi : Int) + 1)) ((qj : Int) + 1)) = (N : Int)) ∧ ((max (max (m : Int) ((ri : Int) + 1)) ((rj : Int) + 1)) = (M : Int))) := by
    show _ ∧ _; constructor <;> omega
  have HL : Hid (xf = addW (addW xs i) j ∧ yf = addW (addW ys (i / 64)) (j / 64) ∧ N = xf.length ∧ M = yf.length ∧ qi = i / 64 ∧ qj = j / 64) := ⟨hxf, hyf, hN, hM, hqi, hqj⟩
  clear hxf hyf hlx hly hqi hqj hri hrj hN hM na nb n1 n2
  go_wp2_with fail
  refine (equal_true aa ab N ca cb xf HL.out.2.2.1.symm (by omega) w15 rda rdb).mono ?_
  rintro e w16 ⟨rfl, t1, rfl⟩
  go_wp2_with fail
  refine (equal_true aa' ab' M ca' cb' yf HL.out.2.2.2.1.symm (by omega) (w15.drewN t1) rda' rdb').mono ?_
  rintro e w17 ⟨rfl, t2, rfl⟩
  go_wp2_with fail
  refine (equal_true aa ac N ca cc xf HL.out.2.2.1.symm (by omega) (w15.drewN (t1 + t2)) rda rdc).mono ?_
  rintro e w18 ⟨rfl, t3, rfl⟩
  go_wp2_with fail
  refine (equal_true aa' ac' M ca' cc' yf HL.out.2.2.2.1.symm (by omega) (w15.drewN (t1 + t2 + t3)) rda' rdc').mono ?_
  rintro e w19 ⟨rfl, t4, rfl⟩
  clear rdb rdb' rdc rdc'
  go_wp2_with fail
  refine (max3_any _ _ _ _).mono ?_
  rintro e w20 ⟨rfl, rfl⟩
  simp only [HNM.out.1]
  go_wp2_with fail
  refine (max3_any _ _ _ _).mono ?_
  rintro e w21 ⟨rfl, rfl⟩
  simp only [HNM.out.2]
  have e1 : ((N : Int) != (N : Int)) = false := by simp
  have e2 : ((M : Int) != (M : Int)) = false := by simp
  go_wp2_with fail
  clear e1 e2
  go_loopg [17] N (fun k v wr => ∃ x : Nat, x ≤ N ∧ k = N - x ∧ v = .int .i64 (x : Nat) ∧ ∃ t, wr = w15.drewN t)
  case atStart => exact ⟨0, Nat.zero_le _, rfl, rfl, _, rfl⟩
  case round =>
    obtain ⟨x, hxN, hk, rfl, t, rfl⟩ := hrel
    have HK : Hid _ := hk
    clear hk
    by_cases hlt : x < N
    · go_wp2_with fail
      go_loopg [18] 64 (fun k v wr => ∃ y : Nat, y ≤ 64 ∧ k = 64 - y ∧ v = .int .i64 (y : Nat) ∧ ∃ t, wr = w15.drewN t)
      case atStart => exact ⟨0, Nat.zero_le _, rfl, rfl, _, rfl⟩
      case round =>
        obtain ⟨y, hy64, hk, rfl, t', rfl⟩ := hrel
        have HK2 : Hid _ := hk
        clear hk
        by_cases hylt : y < 64
        · have hv := wl_get xf x (by rw [← HL.out.2.2.1]; exact hlt)
          obtain ⟨V, hV⟩ : ∃ V, V = xf.getD x 0 := ⟨_, rfl⟩
          rw [← hV] at hv
          obtain ⟨ga, oa, rfl, hcv⟩ := rda.at hv
          have hVl : V < 18446744073709551616 := by rw [hV, HL.out.1]; exact ((fx.add i).add j) x
          obtain ⟨U, hU⟩ : ∃ U, U = xs.getD x 0 := ⟨_, rfl⟩
          have hUl : U < 18446744073709551616 := by rw [hU]; exact fx x
          have hgot := bit_walk V y hVl
          have hwas := bit_walk U y hUl
          have hcs := bit_cases xs i j x y hylt V U (by rw [hV, HL.out.1]) hU
          have hcu : x < n → ∃ gw ow, a1 = some ⟨gw, ow, none⟩ ∧ w15.cell? ⟨gw, ow + x, none⟩ = some (.int .u64 (U : Int)) := fun h => by rw [hU]; exact rd115.at (wl_get xs x (by omega))
          have hcu' : ¬ x < n → bitOf U y = false := fun h => by
            rw [hU, List.getD_eq_getElem?_getD, List.getElem?_eq_none (by omega)]; exact bitOf_zero y
          clear hV hU hv hVl hUl
          by_cases hxn : x < n
          · obtain ⟨gw, ow, rfl, hcw⟩ := hcu hxn
            have hxni : (x : Int) < (n : Int) := by omega
            clear hcu hcu'
            rcases hcs with ⟨h1, h2⟩ | ⟨h1, h2, h3⟩ | ⟨h1, h2, h3, h4⟩ | ⟨h1, h2, h3, h4⟩
            · rw [h1] at hgot
              rw [h2] at hwas
              clear h1 h2
              go_wp2
              go_roundg (64 - (y + 1))
              case measure => have := HK2.out; omega
              case rel => exact ⟨y + 1, by omega, rfl, by go_num, _, rfl⟩
            · rw [h2] at hgot
              rw [h1] at hwas
              have hki : (64 * (x : Int) + (y : Int) == (i : Int)) = true := by rw [beq_iff_eq]; omega
              clear h1 h2 h3
              go_wp2
              go_roundg (64 - (y + 1))
              case measure => have := HK2.out; omega
              case rel => exact ⟨y + 1, by omega, rfl, by go_num, _, rfl⟩
            · rw [h2] at hgot
              rw [h1] at hwas
              have hki : (64 * (x : Int) + (y : Int) == (i : Int)) = false := by rw [beq_eq_false_iff_ne]; omega
              have hkj : (64 * (x : Int) + (y : Int) == (j : Int)) = true := by rw [beq_iff_eq]; omega
              clear h1 h2 h3 h4
              go_wp2
              go_roundg (64 - (y + 1))
              case measure => have := HK2.out; omega
              case rel => exact ⟨y + 1, by omega, rfl, by go_num, _, rfl⟩
            · rw [h2] at hgot
              rw [h1] at hwas
              have hki : (64 * (x : Int) + (y : Int) == (i : Int)) = false := by rw [beq_eq_false_iff_ne]; omega
              have hkj : (64 * (x : Int) + (y : Int) == (j : Int)) = false := by rw [beq_eq_false_iff_ne]; omega
              clear h1 h2 h3 h4
              go_wp2
              go_roundg (64 - (y + 1))
              case measure => have := HK2.out; omega
              case rel => exact ⟨y + 1, by omega, rfl, by go_num, _, rfl⟩
          · have h0 := hcu' hxn
            clear hcu hcu' hwas
            rcases hcs with ⟨h1, h2⟩ | ⟨h1, h2, h3⟩ | ⟨h1, h2, h3, h4⟩ | ⟨h1, h2, h3, h4⟩
            · rw [h0] at h2
              cases h2
            · rw [h2] at hgot
              have hki : (64 * (x : Int) + (y : Int) == (i : Int)) = true := by rw [beq_iff_eq]; omega
              clear h1 h2 h3
              go_wp2
              go_roundg (64 - (y + 1))
              case measure => have := HK2.out; omega
              case rel => exact ⟨y + 1, by omega, rfl, by go_num, _, rfl⟩
            · rw [h2] at hgot
              have hki : (64 * (x : Int) + (y : Int) == (i : Int)) = false := by rw [beq_eq_false_iff_ne]; omega
              have hkj : (64 * (x : Int) + (y : Int) == (j : Int)) = true := by rw [beq_iff_eq]; omega
              clear h1 h2 h3 h4
              go_wp2
              go_roundg (64 - (y + 1))
              case measure => have := HK2.out; omega
              case rel => exact ⟨y + 1, by omega, rfl, by go_num, _, rfl⟩
            · rw [h2] at hgot
              have hki : (64 * (x : Int) + (y : Int) == (i : Int)) = false := by rw [beq_eq_false_iff_ne]; omega
              have hkj : (64 * (x : Int) + (y : Int) == (j : Int)) = false := by rw [beq_eq_false_iff_ne]; omega
              clear h1 h2 h3 h4
              go_wp2
              go_roundg (64 - (y + 1))
              case measure => have := HK2.out; omega
              case rel => exact ⟨y + 1, by omega, rfl, by go_num, _, rfl⟩
        · go_wp2
          go_roundg (N - (x + 1))
          case measure => have := HK.out; omega
          case rel => exact ⟨x + 1, by omega, rfl, by go_num, _, rfl⟩
    · go_wp2_with fail
      clear hlt hxN HK
      go_loopg [23] M (fun k v wr => ∃ x : Nat, x ≤ M ∧ k = M - x ∧ v = .int .i64 (x : Nat) ∧ ∃ t, wr = w15.drewN t)
      case atStart => exact ⟨0, Nat.zero_le _, rfl, rfl, _, rfl⟩
      case round =>
        obtain ⟨x, hxN, hk, rfl, t, rfl⟩ := hrel
        have HK : Hid _ := hk
        clear hk
        by_cases hlt : x < M
        · go_wp2_with fail
          go_loopg [24] 64 (fun k v wr => ∃ y : Nat, y ≤ 64 ∧ k = 64 - y ∧ v = .int .i64 (y : Nat) ∧ ∃ t, wr = w15.drewN t)
          case atStart => exact ⟨0, Nat.zero_le _, rfl, rfl, _, rfl⟩
          case round =>
            obtain ⟨y, hy64, hk, rfl, t', rfl⟩ := hrel
            have HK2 : Hid _ := hk
            clear hk
            by_cases hylt : y < 64
            · have hv := wl_get yf x (by rw [← HL.out.2.2.2.1]; exact hlt)
              obtain ⟨V, hV⟩ : ∃ V, V = yf.getD x 0 := ⟨_, rfl⟩
              rw [← hV] at hv
              obtain ⟨ga, oa, rfl, hcv⟩ := rda'.at hv
              have hVl : V < 18446744073709551616 := by rw [hV, HL.out.2.1]; exact ((fy.add (i / 64)).add (j / 64)) x
              obtain ⟨U, hU⟩ : ∃ U, U = ys.getD x 0 := ⟨_, rfl⟩
              have hUl : U < 18446744073709551616 := by rw [hU]; exact fy x
              have hgot := bit_walk V y hVl
              have hwas := bit_walk U y hUl
              have hcs := bit_cases ys qi qj x y hylt V U (by rw [hV, HL.out.2.1, HL.out.2.2.2.2.1, HL.out.2.2.2.2.2]) hU
              have hcu : x < m → ∃ gw ow, a2 = some ⟨gw, ow, none⟩ ∧ w15.cell? ⟨gw, ow + x, none⟩ = some (.int .u64 (U : Int)) := fun h => by rw [hU]; exact rd215.at (wl_get ys x (by omega))
              have hcu' : ¬ x < m → bitOf U y = false := fun h => by
                rw [hU, List.getD_eq_getElem?_getD, List.getElem?_eq_none (by omega)]; exact bitOf_zero y
              clear hV hU hv hVl hUl
              by_cases hxn : x < m
              · obtain ⟨gw, ow, rfl, hcw⟩ := hcu hxn
                have hxni : (x : Int) < (m : Int) := by omega
                clear hcu hcu'
                rcases hcs with ⟨h1, h2⟩ | ⟨h1, h2, h3⟩ | ⟨h1, h2, h3, h4⟩ | ⟨h1, h2, h3, h4⟩
                · rw [h1] at hgot
                  rw [h2] at hwas
                  clear h1 h2
                  go_wp2
                  go_roundg (64 - (y + 1))
                  case measure => have := HK2.out; omega
                  case rel => exact ⟨y + 1, by omega, rfl, by go_num, _, rfl⟩
                · rw [h2] at hgot
                  rw [h1] at hwas
                  have hki : (64 * (x : Int) + (y : Int) == (qi : Int)) = true := by rw [beq_iff_eq]; omega
                  clear h1 h2 h3
                  go_wp2
                  go_roundg (64 - (y + 1))
                  case measure => have := HK2.out; omega
                  case rel => exact ⟨y + 1, by omega, rfl, by go_num, _, rfl⟩
                · rw [h2] at hgot
                  rw [h1] at hwas
                  have hki : (64 * (x : Int) + (y : Int) == (qi : Int)) = false := by rw [beq_eq_false_iff_ne]; omega
                  have hkj : (64 * (x : Int) + (y : Int) == (qj : Int)) = true := by rw [beq_iff_eq]; omega
                  clear h1 h2 h3 h4
                  go_wp2
                  go_roundg (64 - (y + 1))
                  case measure => have := HK2.out; omega
                  case rel => exact ⟨y + 1, by omega, rfl, by go_num, _, rfl⟩
                · rw [h2] at hgot
                  rw [h1] at hwas
                  have hki : (64 * (x : Int) + (y : Int) == (qi : Int)) = false := by rw [beq_eq_false_iff_ne]; omega
                  have hkj : (64 * (x : Int) + (y : Int) == (qj : Int)) = false := by rw [beq_eq_false_iff_ne]; omega
                  clear h1 h2 h3 h4
                  go_wp2
                  go_roundg (64 - (y + 1))
                  case measure => have := HK2.out; omega
                  case rel => exact ⟨y + 1, by omega, rfl, by go_num, _, rfl⟩
              · have h0 := hcu' hxn
                clear hcu hcu' hwas
                rcases hcs with ⟨h1, h2⟩ | ⟨h1, h2, h3⟩ | ⟨h1, h2, h3, h4⟩ | ⟨h1, h2, h3, h4⟩
                · rw [h0] at h2
                  cases h2
                · rw [h2] at hgot
                  have hki : (64 * (x : Int) + (y : Int) == (qi : Int)) = true := by rw [beq_iff_eq]; omega
                  clear h1 h2 h3
                  go_wp2
                  go_roundg (64 - (y + 1))
                  case measure => have := HK2.out; omega
                  case rel => exact ⟨y + 1, by omega, rfl, by go_num, _, rfl⟩
                · rw [h2] at hgot
                  have hki : (64 * (x : Int) + (y : Int) == (qi : Int)) = false := by rw [beq_eq_false_iff_ne]; omega
                  have hkj : (64 * (x : Int) + (y : Int) == (qj : Int)) = true := by rw [beq_iff_eq]; omega
                  clear h1 h2 h3 h4
                  go_wp2
                  go_roundg (64 - (y + 1))
                  case measure => have := HK2.out; omega
                  case rel => exact ⟨y + 1, by omega, rfl, by go_num, _, rfl⟩
                · rw [h2] at hgot
                  have hki : (64 * (x : Int) + (y : Int) == (qi : Int)) = false := by rw [beq_eq_false_iff_ne]; omega
                  have hkj : (64 * (x : Int) + (y : Int) == (qj : Int)) = false := by rw [beq_eq_false_iff_ne]; omega
                  clear h1 h2 h3 h4
                  go_wp2
                  go_roundg (64 - (y + 1))
                  case measure => have := HK2.out; omega
                  case rel => exact ⟨y + 1, by omega, rfl, by go_num, _, rfl⟩
            · go_wp2
              go_roundg (M - (x + 1))
              case measure => have := HK.out; omega
              case rel => exact ⟨x + 1, by omega, rfl, by go_num, _, rfl⟩
        · go_wp2
          go_ret
          exact ⟨rfl, below_drewN belE15 _⟩

end Go.Proofs.Qxb6617616a.Law
