/-
  SEAT b6616258a. binary.LittleEndian.PutUint64 (function 17) into a block of eight cells.
-/
import Derived.Test.Qxb6616258aBase
namespace Go.Proofs.Qxb6616258a.Pcg
open Go.RowKit

/-- Byte i of the word v, the least first. -/
def byteOf (v : Int) (i : Nat) : Int := v / (256 : Int) ^ i % 256
def wcells (v : Int) : Array Value := #[.int .u8 (byteOf v 0), .int .u8 (byteOf v 1), .int .u8 (byteOf v 2), .int .u8 (byteOf v 3), .int .u8 (byteOf v 4), .int .u8 (byteOf v 5), .int .u8 (byteOf v 6), .int .u8 (byteOf v 7)]
theorem byteOf_range (v : Int) (i : Nat) : 0 ≤ byteOf v i ∧ byteOf v i < 256 := by unfold byteOf; omega

theorem wcells_walk (v : Int) (h0 : 0 ≤ v) (h1 : v < 18446744073709551616) : wcells v = #[.int .u8 (v % 256), .int .u8 (v / 256 % 256), .int .u8 (v / 65536 % 256), .int .u8 (v / 16777216 % 256), .int .u8 (v / 4294967296 % 256), .int .u8 (v / 1099511627776 % 256), .int .u8 (v / 281474976710656 % 256), .int .u8 (v / 72057594037927936)] := by
  have e7 : v / 72057594037927936 = v / 72057594037927936 % 256 := by omega
  rw [e7]
  simp [wcells, byteOf]

set_option maxHeartbeats 4000000 in
set_option maxRecDepth 100000 in
theorem put_any (g : Nat) (t : TypeId) (z : Array Value) (hz : z.size = 8) (v : Int) (h0 : 0 ≤ v) (h1 : v < 18446744073709551616) (w : World) (hg : w.heap[g]? = some (.cells z t (0, 0))) :
    Calls Try.prog 17 #[.agg #[], .slice (some ⟨g, 0, none⟩) 8 8, .int .u64 v] w fun e w' => e = .returned (.tuple #[]) ∧ w'.heap[g]? = some (.cells (wcells v) t (0, 0)) ∧ Fr (· = g) w w' := by
  have hg1 : (w.alloc (.cells #[] 54)).heap[g]? = some (.cells z t (0, 0)) := (Below.heap_alloc _ _ _ (lt_of_heap hg)).trans hg
  obtain ⟨x0, x1, x2, x3, x4, x5, x6, x7, rfl⟩ : ∃ x0 x1 x2 x3 x4 x5 x6 x7, z = #[x0, x1, x2, x3, x4, x5, x6, x7] := by
    obtain ⟨l⟩ := z
    match l, hz with
    | [x0, x1, x2, x3, x4, x5, x6, x7], _ => exact ⟨x0, x1, x2, x3, x4, x5, x6, x7, rfl⟩
  have c0 : (w.alloc (.cells #[] 54)).cell? ⟨g, 0, none⟩ = some x0 := by rw [cell_of hg1]; rfl
  have c1 : (w.alloc (.cells #[] 54)).cell? ⟨g, 1, none⟩ = some x1 := by rw [cell_of hg1]; rfl
  have c2 : (w.alloc (.cells #[] 54)).cell? ⟨g, 2, none⟩ = some x2 := by rw [cell_of hg1]; rfl
  have c3 : (w.alloc (.cells #[] 54)).cell? ⟨g, 3, none⟩ = some x3 := by rw [cell_of hg1]; rfl
  have c4 : (w.alloc (.cells #[] 54)).cell? ⟨g, 4, none⟩ = some x4 := by rw [cell_of hg1]; rfl
  have c5 : (w.alloc (.cells #[] 54)).cell? ⟨g, 5, none⟩ = some x5 := by rw [cell_of hg1]; rfl
  have c6 : (w.alloc (.cells #[] 54)).cell? ⟨g, 6, none⟩ = some x6 := by rw [cell_of hg1]; rfl
  have c7 : (w.alloc (.cells #[] 54)).cell? ⟨g, 7, none⟩ = some x7 := by rw [cell_of hg1]; rfl
  have f0 := frozen_of hg1 0
  have f1 := frozen_of hg1 1
  have f2 := frozen_of hg1 2
  have f3 := frozen_of hg1 3
  have f4 := frozen_of hg1 4
  have f5 := frozen_of hg1 5
  have f6 := frozen_of hg1 6
  have f7 := frozen_of hg1 7
  have HG : Hid ((w.alloc (.cells #[] 54)).heap[g]? = some (.cells #[x0, x1, x2, x3, x4, x5, x6, x7] t (0, 0))) := hg1
  clear hg hg1 hz
  go_enter Try.func17, Try.ntmps17
  go_wp2
  go_end0
  refine ⟨rfl, ?_, ?_⟩
  · rw [wcells_walk v h0 h1]
    exact heap_set (heap_set (heap_set (heap_set (heap_set (heap_set (heap_set (heap_set HG.out 0 _) 1 _) 2 _) 3 _) 4 _) 5 _) 6 _) 7 _
  · exact ((((((((((Fr.refl (fun x => x = g) w).alloc _).setCell ⟨g, 0, none⟩ _ (fun _ => rfl)).setCell ⟨g, 1, none⟩ _ (fun _ => rfl)).setCell ⟨g, 2, none⟩ _ (fun _ => rfl)).setCell ⟨g, 3, none⟩ _ (fun _ => rfl)).setCell ⟨g, 4, none⟩ _ (fun _ => rfl)).setCell ⟨g, 5, none⟩ _ (fun _ => rfl)).setCell ⟨g, 6, none⟩ _ (fun _ => rfl)).setCell ⟨g, 7, none⟩ _ (fun _ => rfl))
end Go.Proofs.Qxb6616258a.Pcg
