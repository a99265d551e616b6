/- SEAT b6616258a. The law's own stream: zzPCGBytesB1 (function 7). -/
import Derived.Test.Qxb6616258aStep
import Derived.Test.Qxb6616258aCalls

namespace Go.Proofs.Qxb6616258a.Pcg

open Go.RowKit

theorem byteOf_shift (v : Int) (j : Nat) : byteOf v j = v / (2 : Int) ^ (8 * j) % 256 := by
  unfold byteOf
  rw [Int.pow_mul]
  rfl

theorem byteAt_at (hi lo : Int) (k j : Nat) (hj : j < 8) : byteAt hi lo (8 * k + j) = byteOf (word (st hi lo k).1 (st hi lo k).2) j := by
  unfold byteAt
  rw [show (8 * k + j) / 8 = k by omega, show (8 * k + j) % 8 = j by omega]

set_option maxHeartbeats 4000000 in
theorem bytes_any (hi lo : Int) (n : Nat) (hn : n ≤ 1048576) (l1 : 0 ≤ lo) (l2 : lo < 18446744073709551616) (w : World) :
    Calls Try.prog 7 #[.int .u64 hi, .int .u64 lo, .int .i64 n] w fun e w' => e = .returned (.slice (some ⟨w.heap.size, 0, none⟩) n n) ∧ w'.rowIs w.heap.size 5 n (fun i => .int .u8 (byteAt hi lo i)) ∧ Fr (fun _ => False) w w' := by
  have hmk := run_make_row' (P := Try.prog) 23 5 (.int .u8 0) 1 Try.underlying23 info5 rfl .i64 .i64 n (by omega) (by omega)
  go_enter Try.func7, Try.ntmps7
  go_wp2
  clear hmk
  go_loopg [8, 9, 10] (n + 8) (fun m h l i wr => ∃ k : Nat, 8 * k < n + 8 ∧ m = n + 8 - 8 * k ∧ h = .int .u64 (st hi lo k).1 ∧ l = .int .u64 (st hi lo k).2 ∧ i = .int .i64 (8 * k : Nat) ∧
      wr.rowIs w.heap.size 5 n (fun j => .int .u8 (if j < 8 * k then byteAt hi lo j else 0)) ∧ Fr (fun _ => False) w wr)
  case atStart =>
    exact ⟨0, by omega, by omega, rfl, rfl, rfl, (World.rowIs_made w (.int .u8 0) n 5).congr (fun i _ => by simp), (Fr.refl _ w).alloc _⟩
  case round =>
    obtain ⟨k, hkn, hm, rfl, rfl, rfl, hrow, hfr⟩ := hrel
    have hst := st_range hi lo l1 l2 k
    have HM : Hid (gk = n + 8 - 8 * k) := hm
    clear hm
    by_cases hlt : 8 * k < n
    · have hwd := word_range (st hi lo k).1 (st hi lo k).2
      go_wp2_with (go_at_call 12; refine (step_any _ _ hst.1 hst.2 _).mono ?_; rintro e w2 ⟨rfl, rfl⟩)
      go_loopg [12] 8 (fun m j wi => ∃ jj : Nat, jj ≤ 8 ∧ m = 8 - jj ∧ j = .int .i64 (jj : Nat) ∧ (8 * k + jj ≤ n) ∧
        wi.rowIs w.heap.size 5 n (fun t => .int .u8 (if t < 8 * k + jj then byteAt hi lo t else 0)) ∧ Fr (fun _ => False) w wi)
      case atStart => exact ⟨0, by omega, rfl, rfl, by omega, hrow, hfr⟩
      case round =>
        obtain ⟨jj, hj8, hmj, rfl, hjn, hrow2, hfr2⟩ := hrel
        have HMJ : Hid (gk = 8 - jj) := hmj
        clear hmj
        by_cases hj : jj < 8 ∧ 8 * k + jj < n
        · have hcy : wr.cell? ⟨w.heap.size, 8 * k + jj, none⟩ = some (.int .u8 0) := by have := hrow2.cell hj.2; simpa using this
          have hfy := hrow2.frozen (8 * k + jj)
          have hb : byteAt hi lo (8 * k + jj) = word (st hi lo k).1 (st hi lo k).2 / 2 ^ (8 * jj) % 256 := (byteAt_at hi lo k jj hj.1).trans (byteOf_shift _ _)
          have R1 := (hrow2.set (8 * k + jj) (.int .u8 (word (st hi lo k).1 (st hi lo k).2 / 2 ^ (8 * jj) % 256))).congr (g := fun t => .int .u8 (if t < 8 * k + (jj + 1) then byteAt hi lo t else 0)) (fun t ht => by
            by_cases e : t = 8 * k + jj
            · subst e; simp [hb]
            · simp only [e, if_false]
              by_cases e2 : t < 8 * k + jj
              · rw [if_pos e2, if_pos (by omega)]
              · rw [if_neg e2, if_neg (by omega)])
          have R2 := hfr2.setCell ⟨w.heap.size, 8 * k + jj, none⟩ (.int .u8 (word (st hi lo k).1 (st hi lo k).2 / 2 ^ (8 * jj) % 256)) (fun h => absurd h (Nat.lt_irrefl _))
          have HR : Hid _ := And.intro R1 R2
          clear R1 R2 hb hrow hrow2 hfr hfr2
          obtain ⟨hj1, hj2⟩ := hj
          go_wp2
          go_roundg (8 - (jj + 1))
          case measure => have := HMJ.out; omega
          case rel => exact ⟨jj + 1, by omega, rfl, by go_num, by omega, HR.out.1, HR.out.2⟩
        · have HR : Hid _ := And.intro (hrow2.congr (g := fun t => .int .u8 (if t < 8 * (k + 1) then byteAt hi lo t else 0)) (fun t ht => by
              by_cases e2 : t < 8 * k + jj
              · rw [if_pos e2, if_pos (by omega)]
              · rw [if_neg e2, if_neg (by omega)])) hfr2
          clear hrow hrow2 hfr hfr2
          by_cases hj1 : jj < 8
          · have hj2 : ¬ 8 * k + jj < n := fun h => hj ⟨hj1, h⟩
            clear hj
            go_wp2
            go_roundg (n + 8 - 8 * (k + 1))
            case measure => have := HM.out; omega
            case rel => exact ⟨k + 1, by omega, rfl, rfl, rfl, by go_num, HR.out.1, HR.out.2⟩
          · clear hj
            go_wp2
            go_roundg (n + 8 - 8 * (k + 1))
            case measure => have := HM.out; omega
            case rel => exact ⟨k + 1, by omega, rfl, rfl, rfl, by go_num, HR.out.1, HR.out.2⟩
    · go_wp2
      go_ret
      exact ⟨rfl, hrow.congr (fun i hi => by rw [if_pos (by omega)]), hfr⟩

end Go.Proofs.Qxb6616258a.Pcg
