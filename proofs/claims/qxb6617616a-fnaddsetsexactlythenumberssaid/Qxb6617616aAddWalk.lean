/-
  SEAT b6617616a. (*bitSet).add (function 9) and ZZBitSetAdd (6): the walks.
-/
import Derived.Test.Qxb6617616aAdd

namespace Go.Proofs.Qxb6617616a.Pre

open Go.RowKit

theorem BS.setW {w : World} {B p n m g c : Nat} {uv : Value} {X Y : List Value} (h : BS w B p (.slice (some ⟨g, 0, none⟩) n c) uv n m X Y) (j : Nat) (u : Value) :
    BS (w.setCell ⟨g, j, none⟩ u) B p (.slice (some ⟨g, 0, none⟩) n c) uv n m (X.set j u) Y := by
  have hne : g ≠ p := fun e => not_row h.box h.ow (by simp [Value.ownBlock, e])
  refine ⟨?_, (h.ow.stored j u).1, ownsRow_setCell_other h.ou (h.ap g (by simp [Value.ownBlock])) u, h.ap, h.le⟩
  exact (Below.heap_setCell _ _ _ _ (fun e => hne e.symm)).trans h.box

theorem BS.setU {w : World} {B p n m g c : Nat} {wv : Value} {X Y : List Value} (h : BS w B p wv (.slice (some ⟨g, 0, none⟩) m c) n m X Y) (j : Nat) (u : Value) :
    BS (w.setCell ⟨g, j, none⟩ u) B p wv (.slice (some ⟨g, 0, none⟩) m c) n m X (Y.set j u) := by
  have hne : g ≠ p := fun e => not_row h.box h.ou (by simp [Value.ownBlock, e])
  refine ⟨?_, ownsRow_setCell_other h.ow (h.ap.symm g (by simp [Value.ownBlock])) u, (h.ou.stored j u).1, h.ap, h.le⟩
  exact (Below.heap_setCell _ _ _ _ (fun e => hne e.symm)).trans h.box

theorem wl_grow (xs : List Nat) (j : Nat) : wl (xs ++ List.replicate (j + 1) 0) = wl (xs ++ List.replicate j 0) ++ [.int .u64 0] := by
  simp [wl, List.replicate_succ', ← List.append_assoc]

theorem or_walk (y k : Nat) (hy : y < 18446744073709551616) (hk : k < 64) : bits .or .u64 (y : Int) (IntKind.u64.wrap (2 ^ k)) = ((y ||| 2 ^ k : Nat) : Int) := by
  have h : 2 ^ k < 18446744073709551616 := Nat.lt_of_lt_of_le (Nat.pow_lt_pow_right (by omega) hk) (by decide)
  have e : IntKind.u64.wrap ((2 : Int) ^ k) = ((2 ^ k : Nat) : Int) := by
    rw [IntKind.wrap_u64, show (2 : Int) ^ k = ((2 ^ k : Nat) : Int) by simp]
    generalize 2 ^ k = t at h ⊢
    omega
  rw [e]
  exact bits_or_u64_nat y (2 ^ k) hy h

theorem Fits.grow {xs : List Nat} (h : Fits xs) (k : Nat) : Fits (grow xs k) := fun w => by rw [grow_getD]; exact h w

theorem wl_set (xs : List Nat) (i z : Nat) : (wl xs).set i (.int .u64 (z : Int)) = wl (xs.set i z) := by simp [wl, List.map_set]

set_option maxHeartbeats 4000000 in
set_option maxRecDepth 100000 in
theorem add_any (B p n m i : Nat) (wv uv : Value) (xs ys : List Nat) (hx : xs.length = n) (hy : ys.length = m) (fx : Fits xs) (fy : Fits ys) (hn : n ≤ 1048576) (hm : m ≤ 1048576) (hi : i < 4194304) (w : World)
    (h : BS w B p wv uv n m (wl xs) (wl ys)) :
    Calls Try.prog 9 #[.pointer (some ⟨p, 0, none⟩), .int .i64 i] w fun e w' => e = .returned (.tuple #[]) ∧ ∃ wv' uv', BS w' B p wv' uv' (max n (i / 64 + 1)) (max m (i / 64 / 64 + 1)) (wl (addW xs i)) (wl (addW ys (i / 64))) ∧ Below B w w' := by
  obtain ⟨i0, hi0, hz0, hz1, hz2⟩ := info_parts info29
  obtain ⟨q, hq⟩ : ∃ q, q = i / 64 := ⟨_, rfl⟩
  have HQ : Hid (q = i / 64) := hq
  have hqi : (i : Int) / 64 = (q : Int) := by omega
  have hqb : q < 65536 := by omega
  clear hq
  go_enter Try.func9, Try.ntmps9
  go_wp2
  go_loopg [] (q + 1 - n) (fun k wr => ∃ j wv', k = q + 1 - (n + j) ∧ (j = 0 ∨ n + j ≤ q + 1) ∧ BS wr B p wv' uv (n + j) m (wl (xs ++ List.replicate j 0)) (wl ys) ∧ Below B w wr)
  case atStart => exact ⟨0, wv, rfl, .inl rfl, by simpa using h, Below.refl _ _⟩
  case round =>
    obtain ⟨j, wv', hk, hj, hbs, hbel⟩ := hrel
    obtain ⟨a, c, rfl, _⟩ := owns_rd hbs.ow
    have HK : Hid _ := hk
    have hc0 : wr.cell? ⟨p, 0, none⟩ = some (.slice a (n + j) c) := by rw [cell_of hbs.box]; rfl
    have hf0 := frozen_of hbs.box 0
    clear hk
    by_cases hlt : n + j ≤ q
    · have hBs : B ≤ wr.heap.size := by have := lt_of_heap hbs.box; have := hbs.le; omega
      go_wp2_with (at_builtin; refine wpList_append_own_at _ rfl _ _ 22 rfl B 29 i0 (.int .u64 0) 1 8 Try.underlying22 hi0 hz0 hz1 hz2 rfl (by decide) _ _ _ rfl (hbs.ow.alloc _) _ 1 1 [.int .u64 0] rfl rfl (cell_one_new _ _ _) (by simp; rfl) (by unfold maxLen; omega) (by omega) (by simp; omega) ?_)
      intro v2 w2 ho hg _ hat
      obtain ⟨a3, c3, rfl, _⟩ := owns_rd ho
      obtain ⟨hp2, hbs2⟩ := hbs.growW ho hg hat
      have hc2 : w2.cell? ⟨p, 0, none⟩ = some (.slice a (n + j) c) := by rw [cell_of hp2]; rfl
      have hf2 := frozen_of hp2 0
      have hbel2 : Below B w w2 := (hbel.alloc hBs _).grown hg (by simp; omega) (fun k hk => (hbs.ow.lt k hk).1)
      have hbel3 := hbel2.setCell (p := ⟨p, 0, none⟩) hbs.le (.slice a3 (n + j + 1) c3)
      have HR : Hid _ := And.intro hbs2 hbel3
      clear hbs hbs2 hbel hbel2 hbel3 ho hg hat hp2
      go_wp2
      go_roundg (q + 1 - (n + (j + 1)))
      case measure => have := HK.out; omega
      case rel => exact ⟨j + 1, _, rfl, .inr (by omega), by rw [wl_grow]; exact HR.out.1, HR.out.2⟩
    · obtain ⟨N, hN⟩ : ∃ N, N = n + j := ⟨_, rfl⟩
      have hj' : j = q + 1 - xs.length := by omega
      have hbs1 : BS wr B p (.slice a N c) uv N m (wl (grow xs (q + 1))) (wl ys) := by unfold grow; rw [← hj', hN]; exact hbs
      have HN : Hid (N = n + j) := hN
      rw [← hN] at hc0 hlt
      have hNq : q < N := by omega
      have hNm : N = max n (q + 1) := by omega
      have HNM : Hid (N = max n (q + 1)) := hNm
      clear hbs hN hj hNm HK
      obtain ⟨r, hr⟩ : ∃ r, r = q / 64 := ⟨_, rfl⟩
      have HRR : Hid (r = q / 64) := hr
      have hri : (q : Int) / 64 = (r : Int) := by omega
      have hrb : r < 1024 := by omega
      clear hr
      have HB1 : Hid _ := And.intro hbs1 hbel
      clear hbs1 hbel
      go_wp2_with fail
      clear hc0 hf0
      go_loopg [] (r + 1 - m) (fun k wr => ∃ j uv', k = r + 1 - (m + j) ∧ (j = 0 ∨ m + j ≤ r + 1) ∧ BS wr B p (.slice a N c) uv' N (m + j) (wl (grow xs (q + 1))) (wl (ys ++ List.replicate j 0)) ∧ Below B w wr)
      case atStart => exact ⟨0, uv, rfl, .inl rfl, by simpa using HB1.out.1, HB1.out.2⟩
      case round =>
        obtain ⟨t, uv', hk, hj, hbs, hbel⟩ := hrel
        obtain ⟨a2, c2, rfl, _⟩ := owns_rd hbs.ou
        have HK : Hid _ := hk
        have hc0 : wr.cell? ⟨p, 1, none⟩ = some (.slice a2 (m + t) c2) := by rw [cell_of hbs.box]; rfl
        have hf0 := frozen_of hbs.box 1
        clear hk HB1
        by_cases hlt2 : m + t ≤ r
        · have hBs : B ≤ wr.heap.size := by have := lt_of_heap hbs.box; have := hbs.le; omega
          go_wp2_with (at_builtin; refine wpList_append_own_at _ rfl _ _ 22 rfl B 29 i0 (.int .u64 0) 1 8 Try.underlying22 hi0 hz0 hz1 hz2 rfl (by decide) _ _ _ rfl (hbs.ou.alloc _) _ 1 1 [.int .u64 0] rfl rfl (cell_one_new _ _ _) (by simp; rfl) (by unfold maxLen; omega) (by omega) (by simp; omega) ?_)
          intro v2 w2 ho hg _ hat
          obtain ⟨a3, c3, rfl, _⟩ := owns_rd ho
          obtain ⟨hp2, hbs2⟩ := hbs.growU ho hg hat
          have hc2 : w2.cell? ⟨p, 1, none⟩ = some (.slice a2 (m + t) c2) := by rw [cell_of hp2]; rfl
          have hf2 := frozen_of hp2 1
          have hbel2 : Below B w w2 := (hbel.alloc hBs _).grown hg (by simp; omega) (fun k hk => (hbs.ou.lt k hk).1)
          have hbel3 := hbel2.setCell (p := ⟨p, 1, none⟩) hbs.le (.slice a3 (m + t + 1) c3)
          have HR : Hid _ := And.intro hbs2 hbel3
          clear hbs hbs2 hbel hbel2 hbel3 ho hg hat hp2
          go_wp2
          go_roundg (r + 1 - (m + (t + 1)))
          case measure => have := HK.out; omega
          case rel => exact ⟨t + 1, _, rfl, .inr (by omega), by rw [wl_grow]; exact HR.out.1, HR.out.2⟩
        · obtain ⟨M, hM⟩ : ∃ M, M = m + t := ⟨_, rfl⟩
          have hj' : t = r + 1 - ys.length := by omega
          have hbs1 : BS wr B p (.slice a N c) (.slice a2 M c2) N M (wl (grow xs (q + 1))) (wl (grow ys (r + 1))) := by
            unfold grow; rw [← hj', hM]; unfold grow at hbs; exact hbs
          have HM : Hid (M = m + t) := hM
          rw [← hM] at hc0 hlt2
          have hMr : r < M := by omega
          have HMM : Hid (M = max m (r + 1)) := by show _ = _; omega
          have HB2 : Hid _ := And.intro hbs1 hbel
          clear hbs hM hj HK hbel
          go_upto_region 5 with fail
          obtain ⟨_, _, e1, _, n1, _, _, x1⟩ := owns_rd hbs1.ow
          obtain ⟨_, _, e2, _, n2, _, _, x2⟩ := owns_rd hbs1.ou
          simp only [Value.slice.injEq] at e1 e2
          obtain ⟨rfl, _, rfl⟩ := e1
          obtain ⟨rfl, _, rfl⟩ := e2
          cases a with
          | none => have := (n1 rfl).1; omega
          | some xa =>
            cases a2 with
            | none => have := (n2 rfl).1; omega
            | some xb =>
              obtain ⟨ea, _, _⟩ := x1 xa rfl
              obtain ⟨eb, _, _⟩ := x2 xb rfl
              obtain ⟨ga, hga⟩ : ∃ g, g = xa.block := ⟨_, rfl⟩
              obtain ⟨gb, hgb⟩ : ∃ g, g = xb.block := ⟨_, rfl⟩
              rw [← hga] at ea
              rw [← hgb] at eb
              subst ea eb
              clear hga hgb x1 x2 n1 n2 hc0 hf0
              have hc0 : wr.cell? ⟨p, 0, none⟩ = some (.slice (some ⟨ga, 0, none⟩) N c) := by rw [cell_of hbs1.box]; rfl
              have hcg : wr.cell? ⟨ga, q, none⟩ = some (.int .u64 (((grow xs (q + 1)).getD q 0 : Nat) : Int)) := by
                rw [hbs1.ow.cellAt q (by omega)]; exact wl_get _ _ (by rw [grow_length]; omega)
              have hfg := hbs1.ow.frozenAt q
              obtain ⟨y, hy⟩ : ∃ y, y = (grow xs (q + 1)).getD q 0 := ⟨_, rfl⟩
              rw [← hy] at hcg
              have HY : Hid _ := hy
              have hy64 : y < 18446744073709551616 := by rw [hy]; exact fx.grow _ _
              obtain ⟨z, hz⟩ : ∃ z : Nat, z = y ||| 2 ^ (i % 64) := ⟨_, rfl⟩
              have ho := or_walk y (i % 64) hy64 (Nat.mod_lt _ (by omega))
              rw [← hz] at ho
              have HZ : Hid _ := hz
              have hbs5 := hbs1.setW q (.int .u64 (z : Int))
              have hbel5 := HB2.out.2.setCell (p := ⟨ga, q, none⟩) (hbs1.ow.lt ga (by simp [Value.ownBlock])).1 (.int .u64 (z : Int))
              rw [wl_set] at hbs5
              clear hy hbs1 hz HB2
              go_region
              generalize hW5 : (wr.setCell { block := ga, off := q } (Value.int IntKind.u64 (z : Int))).drew = w5
              replace hbs5 : BS w5 B p (.slice (some ⟨ga, 0, none⟩) N c) (.slice (some ⟨gb, 0, none⟩) M c2) N M (wl ((grow xs (q + 1)).set q z)) (wl (grow ys (r + 1))) := by rw [← hW5]; exact ⟨hbs5.box, hbs5.ow, hbs5.ou, hbs5.ap, hbs5.le⟩
              replace hbel5 : Below B w w5 := by rw [← hW5]; exact hbel5.drew
              clear hW5 hcg hfg hc0 ho hy64
              have hc1 : w5.cell? ⟨p, 1, none⟩ = some (.slice (some ⟨gb, 0, none⟩) M c2) := by rw [cell_of hbs5.box]; rfl
              have hcg : w5.cell? ⟨gb, r, none⟩ = some (.int .u64 (((grow ys (r + 1)).getD r 0 : Nat) : Int)) := by
                rw [hbs5.ou.cellAt r (by omega)]; exact wl_get _ _ (by rw [grow_length]; omega)
              have hfg := hbs5.ou.frozenAt r
              obtain ⟨y', hy'⟩ : ∃ y, y = (grow ys (r + 1)).getD r 0 := ⟨_, rfl⟩
              rw [← hy'] at hcg
              have HY' : Hid _ := hy'
              have hy64' : y' < 18446744073709551616 := by rw [hy']; exact fy.grow _ _
              obtain ⟨z', hz'⟩ : ∃ z : Nat, z = y' ||| 2 ^ (q % 64) := ⟨_, rfl⟩
              have ho' := or_walk y' (q % 64) hy64' (Nat.mod_lt _ (by omega))
              rw [← hz'] at ho'
              have HZ' : Hid _ := hz'
              have hbs6 := hbs5.setU r (.int .u64 (z' : Int))
              have hbel6 := hbel5.setCell (p := ⟨gb, r, none⟩) (hbs5.ou.lt gb (by simp [Value.ownBlock])).1 (.int .u64 (z' : Int))
              rw [wl_set] at hbs6
              clear hy' hbs5 hz' hbel5
              go_upto_region 6 with fail
              go_region
              go_end0
              refine ⟨rfl, .slice (some ⟨ga, 0, none⟩) N c, .slice (some ⟨gb, 0, none⟩) M c2, ?_, hbel6.drew⟩
              have eW : (grow xs (q + 1)).set q z = addW xs i := by
                unfold addW
                rw [← HQ.out, HZ.out, HY.out]
              have eU : (grow ys (r + 1)).set r z' = addW ys (i / 64) := by
                unfold addW
                rw [← HQ.out, ← HRR.out, HZ'.out, HY'.out]
              rw [eW, eU] at hbs6
              have e1 : max n (i / 64 + 1) = N := by rw [← HQ.out]; exact HNM.out.symm
              have e2 : max m (i / 64 / 64 + 1) = M := by rw [← HQ.out, ← HRR.out]; exact HMM.out.symm
              rw [e1, e2]
              exact ⟨hbs6.box, hbs6.ow, hbs6.ou, hbs6.ap, hbs6.le⟩

end Go.Proofs.Qxb6617616a.Pre
