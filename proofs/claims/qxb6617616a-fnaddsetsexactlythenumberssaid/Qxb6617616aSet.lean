/-
  SEAT b6617616a. ZZBitSetAdd (function 6).
-/
import Derived.Test.Qxb6617616aAddWalk

namespace Go.Proofs.Qxb6617616a.Pre

open Go.RowKit

/-- Two rows of the call's own, apart: the set's words and marks. -/
structure Two (w : World) (B : Nat) (wv uv : Value) (xs ys : List Nat) : Prop where
  ow : w.ownsRow B 29 1 wv xs.length (wl xs)
  ou : w.ownsRow B 29 1 uv ys.length (wl ys)
  ap : Apart wv uv

theorem Two.keep {w w' : World} {B B' : Nat} {wv uv : Value} {xs ys : List Nat} (h : Two w B wv uv xs ys) (hb : Below B' w w') (hB : w.heap.size ≤ B') : Two w' B wv uv xs ys := by
  have hg : w.grownBy w' none := ⟨hb.os, hb.tape, hb.output, hb.size, fun k hk _ => hb.block k (by omega)⟩
  exact ⟨h.ow.kept hg (by cases wv.ownBlock <;> simp), h.ou.kept hg (by cases uv.ownBlock <;> simp), h.ap⟩

set_option maxHeartbeats 4000000 in
set_option maxRecDepth 100000 in
theorem set_any (B i : Nat) (wv uv : Value) (xs ys : List Nat) (fx : Fits xs) (fy : Fits ys) (hn : xs.length ≤ 1048576) (hm : ys.length ≤ 1048576) (hi : i < 4194304) (w : World)
    (h : Two w B wv uv xs ys) (hB : B ≤ w.heap.size) :
    Calls Try.prog 6 #[wv, uv, .int .i64 i] w fun e w' => ∃ wv' uv', e = .returned (.tuple #[wv', uv']) ∧ Two w' B wv' uv' (addW xs i) (addW ys (i / 64)) ∧ Below B w w' := by
  obtain ⟨a, c, rfl, _⟩ := owns_rd h.ow
  obtain ⟨a2, c2, rfl, _⟩ := owns_rd h.ou
  have hC := add_any B w.heap.size xs.length ys.length i _ _ xs ys rfl rfl fx fy hn hm hi (w.alloc (.cells #[.slice a xs.length c, .slice a2 ys.length c2] 33)) ⟨heap_alloc_new _ _, h.ow.alloc _, h.ou.alloc _, h.ap, hB⟩
  obtain ⟨n, hn'⟩ : ∃ n, n = xs.length := ⟨_, rfl⟩
  obtain ⟨m, hm'⟩ : ∃ m, m = ys.length := ⟨_, rfl⟩
  rw [← hn', ← hm'] at hC ⊢
  have HN : Hid _ := hn'
  have HM : Hid _ := hm'
  clear hn' hm' h hn hm
  go_enter Try.func6, Try.ntmps6
  go_wp2_with fail
  refine hC.mono ?_
  rintro e w2 ⟨rfl, wv', uv', hbs, hbel⟩
  obtain ⟨a', c', rfl, _⟩ := owns_rd hbs.ow
  obtain ⟨a2', c2', rfl, _⟩ := owns_rd hbs.ou
  have hc0 : w2.cell? ⟨w.heap.size, 0, none⟩ = some (.slice a' (max n (i / 64 + 1)) c') := by rw [cell_of hbs.box]; rfl
  have hc1 : w2.cell? ⟨w.heap.size, 1, none⟩ = some (.slice a2' (max m (i / 64 / 64 + 1)) c2') := by rw [cell_of hbs.box]; rfl
  have HB : Hid _ := And.intro hbs hbel
  clear hC hbs hbel
  go_wp2_with fail
  go_quiet (fail)
  go_wp2_with fail
  go_ret2
  refine ⟨_, _, rfl, ⟨?_, ?_, HB.out.1.ap⟩, ?_⟩
  · have := HB.out.1.ow
    rw [addW_length, ← HN.out]
    exact this
  · have := HB.out.1.ou
    rw [addW_length, ← HM.out]
    exact this
  · exact below_drewN (((Below.refl B w).alloc hB _).trans HB.out.2) _

end Go.Proofs.Qxb6617616a.Pre
