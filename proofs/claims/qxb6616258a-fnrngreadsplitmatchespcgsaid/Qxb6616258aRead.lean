/-
  SEAT b6616258a. (rngReader).Read (function 15) and ZZrngRead (9).
-/
import Derived.Test.Qxb6616258aNext
import Derived.Test.Qxb6616258aPut
import Derived.Test.Qxb6616258aBufs
import Derived.Deep.RegionWith
import Derived.Test.Qxb6616258aCopy
import Derived.Deep.CutRange
import Derived.Deep.Light
namespace Go.Proofs.Qxb6616258a.Pcg
open Go.RowKit

/-! ### The plain functions -/
/-- The state behind k steps. -/
def st (hi lo : Int) : Nat → Int × Int
  | 0 => (hi, lo)
  | k + 1 => (sHi (st hi lo k).1 (st hi lo k).2, sLo (st hi lo k).2)
/-- Byte j of the stream from (hi, lo). -/
def byteAt (hi lo : Int) (j : Nat) : Int := byteOf (word (st hi lo (j / 8)).1 (st hi lo (j / 8)).2) (j % 8)

theorem st_range (hi lo : Int) (l1 : 0 ≤ lo) (l2 : lo < 18446744073709551616) : ∀ k, 0 ≤ (st hi lo k).2 ∧ (st hi lo k).2 < 18446744073709551616
  | 0 => ⟨l1, l2⟩
  | _ + 1 => sLo_range _


/-- What a round leaves in the buffer: eight bytes more (or as many as there is room for). -/
theorem row_step {w' : World} {g n k : Nat} {hi lo : Int} {z : Nat → Int} {c : Array Value} (hlt : 8 * k < n)
    (hsz : c.size = n) (hc : ∀ i, i < n → c[i]? = some (.int .u8 (if i < 8 * k then byteAt hi lo i else z i)))
    (h : w'.heap[g]? = some (.cells (splice c.toList (8 * k) ((wcells (word (st hi lo k).1 (st hi lo k).2)).toList.take (Nat.min 8 (n - 8 * k)))).toArray 5 (0, 0))) :
    w'.rowIs g 5 n (fun j => .int .u8 (if j < 8 * (k + 1) then byteAt hi lo j else z j)) := by
  have hl8 : (wcells (word (st hi lo k).1 (st hi lo k).2)).toList.length = 8 := rfl
  have hml : ((wcells (word (st hi lo k).1 (st hi lo k).2)).toList.take (Nat.min 8 (n - 8 * k))).length = Nat.min 8 (n - 8 * k) := by
    rw [List.length_take, hl8]; exact Nat.min_eq_left (Nat.min_le_left _ _)
  have hm8 : Nat.min 8 (n - 8 * k) ≤ 8 := Nat.min_le_left _ _
  have hmn : Nat.min 8 (n - 8 * k) ≤ n - 8 * k := Nat.min_le_right _ _
  have hmx : Nat.min 8 (n - 8 * k) = 8 ∨ Nat.min 8 (n - 8 * k) = n - 8 * k := by
    by_cases h : 8 ≤ n - 8 * k
    · exact .inl (Nat.min_eq_left h)
    · exact .inr (Nat.min_eq_right (by omega))
  have hfit : 8 * k + ((wcells (word (st hi lo k).1 (st hi lo k).2)).toList.take (Nat.min 8 (n - 8 * k))).length ≤ c.toList.length := by
    rw [hml, Array.length_toList, hsz]; omega
  refine ⟨_, h, ?_, fun j hj => ?_⟩
  · rw [List.size_toArray, length_splice _ _ _ hfit, Array.length_toList, hsz]
  · rw [List.getElem?_toArray, splice_get _ _ _ hfit, hml]
    by_cases h1 : 8 * k ≤ j ∧ j < 8 * k + Nat.min 8 (n - 8 * k)
    · rw [if_pos h1, List.getElem?_take_of_lt (by omega)]
      have e1 : j / 8 = k := by omega
      obtain ⟨i, rfl⟩ : ∃ i, j = 8 * k + i := ⟨j - 8 * k, by omega⟩
      have e2 : (8 * k + i) % 8 = i := by omega
      show _ = some (Value.int .u8 (if 8 * k + i < 8 * (k + 1) then byteAt hi lo (8 * k + i) else z (8 * k + i)))
      rw [if_pos (by omega)]
      unfold byteAt
      rw [e1, e2, show 8 * k + i - 8 * k = i by omega]
      have hi8 : i < 8 := by omega
      match i, hi8 with
      | 0, _ => rfl
      | 1, _ => rfl
      | 2, _ => rfl
      | 3, _ => rfl
      | 4, _ => rfl
      | 5, _ => rfl
      | 6, _ => rfl
      | 7, _ => rfl
    · rw [if_neg h1]
      have := hc j hj
      rw [Array.getElem?_toList, this]
      show _ = some (Value.int .u8 (if j < 8 * (k + 1) then byteAt hi lo j else z j))
      by_cases h2 : j < 8 * k
      · rw [if_pos h2, if_pos (by omega)]
      · rw [if_neg h2, if_neg (by omega)]

theorem wcells_one (v : Int) (m : Nat) : ∀ u ∈ (wcells v).toList.take m, u.oneCell' = true := by
  intro u hu
  have := List.mem_of_mem_take hu
  simp [wcells] at this
  rcases this with rfl | rfl | rfl | rfl | rfl | rfl | rfl | rfl <;> rfl

def Z8 : Array Value := #[.int .u8 0, .int .u8 0, .int .u8 0, .int .u8 0, .int .u8 0, .int .u8 0, .int .u8 0, .int .u8 0]

theorem add_pl (b o i : Nat) : (⟨b, o, none⟩ : Addr).add i = ⟨b, o + i, none⟩ := by unfold Addr.add; split <;> simp_all

theorem size5 : (Try.prog.info? 5).map (·.size) = some 1 := by kernel_rfl

set_option maxHeartbeats 4000000 in
set_option maxRecDepth 100000 in
theorem read_some (r p g n : Nat) (hi lo : Int) (z : Nat → Int) (hn : n ≤ 1048576) (l1 : 0 ≤ lo) (l2 : lo < 18446744073709551616) (w : World)
    (hp : w.heap[p]? = some (.cells #[.int .u64 hi, .int .u64 lo] 51 (0, 0))) (hr : w.cell? ⟨r, 0, none⟩ = some (.iface 41 (.pointer (some ⟨p, 0, none⟩))))
    (hg : w.rowIs g 5 n (fun i => .int .u8 (z i))) (hgp : g ≠ p) (hrp : r ≠ p) (hrg : r ≠ g) :
    Calls Try.prog 15 #[.agg #[.pointer (some ⟨r, 0, none⟩)], .slice (some ⟨g, 0, none⟩) n n] w fun e w' => e = .returned (.tuple #[.int .i64 n, .nilIface]) ∧
      w'.heap[p]? = some (.cells #[.int .u64 (st hi lo ((n + 7) / 8)).1, .int .u64 (st hi lo ((n + 7) / 8)).2] 51 (0, 0)) ∧ w'.rowIs g 5 n (fun i => .int .u8 (byteAt hi lo i)) ∧ Fr (fun k => k = p ∨ k = g) w w' := by
  go_enter Try.func15, Try.ntmps15
  go_wp2
  go_loopg [6] (n + 8) (fun m i wr => ∃ k : Nat, 8 * k < n + 8 ∧ m = n + 8 - 8 * k ∧ i = .int .i64 (8 * k : Nat) ∧ wr.rowIs g 5 n (fun j => .int .u8 (if j < 8 * k then byteAt hi lo j else z j)) ∧
      wr.heap[p]? = some (.cells #[.int .u64 (st hi lo k).1, .int .u64 (st hi lo k).2] 51 (0, 0)) ∧ wr.cell? ⟨r, 0, none⟩ = some (.iface 41 (.pointer (some ⟨p, 0, none⟩))) ∧
      wr.cell? ⟨w.heap.size, 0, none⟩ = some (.pointer (some ⟨r, 0, none⟩)) ∧ Fr (fun k => k = p ∨ k = g) w wr)
  case atStart =>
    refine ⟨0, by omega, by omega, rfl, (hg.alloc _).congr (fun i _ => by simp), (Below.heap_alloc _ _ _ (lt_of_heap hp)).trans hp, ?_, World.cell?_alloc_at _ _ _ _ rfl, (Fr.refl _ _).alloc _⟩
    exact (Below.cell ((Below.refl w.heap.size w).alloc (Nat.le_refl _) _) (World.block_lt_of_cell? _ _ hr)).trans hr
  case round =>
    obtain ⟨k, hkn, hm, rfl, hrow, hpr, hrr, hbx, hfr⟩ := hrel
    have hst := st_range hi lo l1 l2 k
    by_cases hlt : 8 * k < n
    · have hR := rand_any r p (st hi lo k).1 (st hi lo k).2 hst.1 hst.2 (wr.alloc (.cells #[.int .u8 0, .int .u8 0, .int .u8 0, .int .u8 0, .int .u8 0, .int .u8 0, .int .u8 0, .int .u8 0] 52)).drew
        ((Below.heap_alloc _ _ _ (lt_of_heap hpr)).trans hpr) ((Below.cell (((Below.refl wr.heap.size wr).alloc (Nat.le_refl _) _)) (World.block_lt_of_cell? _ _ hrr)).trans hrr)
      have hB0 : (wr.alloc (.cells #[.int .u8 0, .int .u8 0, .int .u8 0, .int .u8 0, .int .u8 0, .int .u8 0, .int .u8 0, .int .u8 0] 52)).drew.heap[wr.heap.size]? = some (.cells #[.int .u8 0, .int .u8 0, .int .u8 0, .int .u8 0, .int .u8 0, .int .u8 0, .int .u8 0, .int .u8 0] 52 (0, 0)) := heap_alloc_new wr _
      have hwd := word_range (st hi lo k).1 (st hi lo k).2
      have HB0 : Hid ((wr.alloc (.cells #[.int .u8 0, .int .u8 0, .int .u8 0, .int .u8 0, .int .u8 0, .int .u8 0, .int .u8 0, .int .u8 0] 52)).drew.heap[wr.heap.size]? = some (.cells #[.int .u8 0, .int .u8 0, .int .u8 0, .int .u8 0, .int .u8 0, .int .u8 0, .int .u8 0, .int .u8 0] 52 (0, 0))) := hB0
      have HM : Hid (gk = n + 8 - 8 * k) := hm
      have hpl : p < wr.heap.size := lt_of_heap hpr
      have hgl : g < wr.heap.size := hrow.lt
      have HX : Hid (wr.cell? ⟨r, 0, none⟩ = some (.iface 41 (.pointer (some ⟨p, 0, none⟩))) ∧ wr.cell? ⟨w.heap.size, 0, none⟩ = some (.pointer (some ⟨r, 0, none⟩))) := ⟨hrr, hbx⟩
      have hrl := World.block_lt_of_cell? _ _ hrr
      have hbl := World.block_lt_of_cell? _ _ hbx
      clear hB0 hm hpr hrr
      go_upto_region 5 with fail
      go_cut [] from 8 to 24 (fun wx => wx.heap[p]? = some (.cells #[.int .u64 (st hi lo (k + 1)).1, .int .u64 (st hi lo (k + 1)).2] 51 (0, 0)) ∧ wx.heap[wr.heap.size]? = some (.cells (wcells (word (st hi lo k).1 (st hi lo k).2)) 52 (0, 0)) ∧ Fr (fun x => x = p) wr wx)
      case first =>
        go_region_with (first
          | (go_at_call 18; refine hR.mono ?_; rintro e w2 ⟨rfl, hp2, hf2⟩)
          | (go_at_call 17; refine (put_any wr.heap.size 52 _ rfl (word (st hi lo k).1 (st hi lo k).2) hwd.1 hwd.2 _ (hf2.keep HB0.out (fun e => by omega))).mono ?_; rintro e w3 ⟨rfl, hB3, hf3⟩))
        all_goals
          go_wp2_with fail
          go_meet
          exact ⟨hf3.keep hp2 (fun e => by omega), hB3, (((Fr.refl _ wr).alloc _).drew.trans hf2 (fun _ _ e => e)).trans hf3 (fun i hi e => by omega)⟩
      case rest =>
        obtain ⟨hp3, hB3, hf3⟩ := hcut
        obtain ⟨c, hgc, hcs, hcc⟩ := hrow
        have hg4 : wc.drew.heap[g]? = some (.cells c.toList.toArray 5 (0, 0)) := (hf3.keep hgc hgp : wc.heap[g]? = some (.cells c 5 (0, 0)))
        have hmin : ((wcells (word (st hi lo k).1 (st hi lo k).2)).toList.take (Nat.min 8 (n - 8 * k))).length = Nat.min 8 (n - 8 * k) := by
          rw [List.length_take]; exact Nat.min_eq_left (Nat.min_le_left _ _)
        have hsrc : ∀ j v, ((wcells (word (st hi lo k).1 (st hi lo k).2)).toList.take (Nat.min 8 (n - 8 * k)))[j]? = some v → wc.drew.cell? ((⟨wr.heap.size, 0, none⟩ : Addr).add j) = some v := by
          intro j v hv
          rw [List.getElem?_take] at hv
          split at hv
          · rw [add_pl, Nat.zero_add]
            refine (cell_of (w := wc.drew) hB3 j).trans ?_
            rw [← Array.getElem?_toList]; exact hv
          · cases hv
        have hfit : 8 * k + ((wcells (word (st hi lo k).1 (st hi lo k).2)).toList.take (Nat.min 8 (n - 8 * k))).length ≤ c.toList.length := by
          rw [hmin, Array.length_toList, hcs]; have : Nat.min 8 (n - 8 * k) ≤ n - 8 * k := Nat.min_le_right _ _; omega
        have HG4 := hg4; have HMI := hmin; have HSRC := hsrc
        have hk1 : 8 * (k : Int) ≤ (n : Int) := by omega
        have hk0 : (0 : Int) ≤ 8 * (k : Int) := by omega
        have hkt : (8 * (k : Int)).toNat = 8 * k := by omega
        have hnk : ¬ n = 8 * k := by omega
        replace HG4 : Hid _ := HG4
        replace HMI : Hid _ := HMI
        replace HSRC : Hid _ := HSRC
        have HP3 : Hid _ := hp3
        have hpne : w.heap.size ≠ p := by have := lt_of_heap hp; omega
        have hgne : w.heap.size ≠ g := by have := hg.lt; omega
        clear hg4 hmin hsrc hgc hp3 hB3
        go_wp2
        go_region_law (refine step_copy_fr rfl (.tmp 22) (.tmp 23) 23 23 rfl 5 Try.underlying23 size5 g (8 * k) (n - 8 * k) (n - 8 * k) ⟨wr.heap.size, 0, none⟩ 8 8 (by simp [Act.eval, Act.put]) (by simp [Act.eval, Act.put]) c.toList 5 HG4.out ((wcells (word (st hi lo k).1 (st hi lo k).2)).toList.take (Nat.min 8 (n - 8 * k))) HMI.out HSRC.out hfit (wcells_one _ _) ?_; intro w5 HG5 hf5)
        have hg5 := HG5.out
        clear HG5
        have hr5 := row_step hlt hcs hcc hg5
        have hp5 : w5.heap[p]? = some (.cells #[.int .u64 (st hi lo (k + 1)).1, .int .u64 (st hi lo (k + 1)).2] 51 (0, 0)) := hf5.keep (HP3.out : wc.drew.heap[p]? = _) (fun e => hgp e.symm)
        have hf35 : Fr (fun x => x = p ∨ x = g) wr w5 := (hf3.mono (T := fun x => x = p ∨ x = g) (fun _ _ e => .inl e)).drew.trans hf5 (fun _ _ e => .inr e)
        have hrr5 : w5.cell? ⟨r, 0, none⟩ = some (.iface 41 (.pointer (some ⟨p, 0, none⟩))) := (World.cell?_of_block (hf35.block r hrl (fun e => by omega))).trans HX.out.1
        have hbx5 : w5.cell? ⟨w.heap.size, 0, none⟩ = some (.pointer (some ⟨r, 0, none⟩)) := (World.cell?_of_block (hf35.block w.heap.size hbl (fun e => by omega))).trans HX.out.2
        have hf05 := hfr.trans hf35 (fun _ _ e => e)
        have HR5 : Hid _ := And.intro hr5 (And.intro hp5 (And.intro hrr5 (And.intro hbx5 hf05)))
        clear hg5 hr5 hp5 hf35 hrr5 hbx5 hf05 hf5 hf3 hfr
        go_wp2
        go_roundg (n + 8 - 8 * (k + 1))
        case measure => have := HM.out; omega
        case rel => exact ⟨k + 1, by omega, rfl, by go_num, HR5.out⟩
    · have ek : (n + 7) / 8 = k := by omega
      have HR : Hid _ := And.intro hrow (And.intro hpr hfr)
      clear hrow hpr hfr
      go_wp2
      go_ret2
      refine ⟨rfl, ?_, ?_, HR.out.2.2⟩
      · rw [ek]; exact HR.out.2.1
      · exact HR.out.1.congr (fun i hi => by rw [if_pos (by omega)])
end Go.Proofs.Qxb6616258a.Pcg
