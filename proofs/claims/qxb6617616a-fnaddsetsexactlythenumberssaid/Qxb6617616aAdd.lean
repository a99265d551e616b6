/-
  SEAT b6617616a. (*bitSet).add (function 9) and ZZBitSetAdd (6).
-/
import Derived.Test.Qxb6617616aPlain
import Derived.Maps.AppendAt
import Derived.OneCell
import Derived.Deep.Cut
import Derived.Deep.CutRange

namespace Go.Proofs.Qxb6617616a.Pre

open Go.RowKit

/-- The two slices lie in different blocks. -/
def Apart (u v : Value) : Prop := ∀ k, u.ownBlock = some k → v.ownBlock ≠ some k

theorem Apart.symm {u v : Value} (h : Apart u v) : Apart v u := fun k hv hu => h k hu hv

/-- The set: block p holds the two slices; each owns its row. -/
structure BS (w : World) (B p : Nat) (wv uv : Value) (n m : Nat) (X Y : List Value) : Prop where
  box : w.heap[p]? = some (.cells #[wv, uv] 33 (0, 0))
  ow : w.ownsRow B 29 1 wv n X
  ou : w.ownsRow B 29 1 uv m Y
  ap : Apart wv uv
  le : B ≤ p

theorem not_row {w : World} {p : Nat} {c : Array Value} {B n : Nat} {v : Value} {X : List Value} (h : w.heap[p]? = some (.cells c 33 (0, 0))) (hr : w.ownsRow B 29 1 v n X) : v.ownBlock ≠ some p := by
  rcases hr.2 with ⟨rfl, _⟩ | ⟨g, cap, cur, rfl, _, hgb, _⟩
  · simp [Value.ownBlock]
  · intro e'
    obtain rfl : g = p := by simpa [Value.ownBlock] using e'
    have := h.symm.trans hgb
    simp at this

theorem cell_of {w : World} {b : Nat} {c : Array Value} {t : TypeId} (h : w.heap[b]? = some (.cells c t (0, 0))) (i : Nat) : w.cell? ⟨b, i, none⟩ = c[i]? := by
  simp [World.cell?, h]
theorem frozen_of {w : World} {b : Nat} {c : Array Value} {t : TypeId} (h : w.heap[b]? = some (.cells c t (0, 0))) (i : Nat) : w.frozen? ⟨b, i, none⟩ = false := by
  simp [World.frozen?, h]
theorem heap_set {w : World} {b : Nat} {c : Array Value} {t : TypeId} (h : w.heap[b]? = some (.cells c t (0, 0))) (i : Nat) (v : Value) :
    (w.setCell ⟨b, i, none⟩ v).heap[b]? = some (.cells (c.setIfInBounds i v) t (0, 0)) := by
  simp [World.setCell, Array.getElem?_modify, h]

/-- One word 0 more at the end of the words. -/
theorem BS.growW {w w2 : World} {B p n m : Nat} {wv uv v : Value} {X Y : List Value} {o : Obj} (h : BS w B p wv uv n m X Y) {X' : List Value} {n' : Nat}
    (ho : w2.ownsRow B 29 1 v n' X') (hg : (w.alloc o).grownBy w2 wv.ownBlock) (hat : v.ownBlock = wv.ownBlock ∨ v.ownBlock = some (w.heap.size + 1)) :
    w2.heap[p]? = some (.cells #[wv, uv] 33 (0, 0)) ∧ BS (w2.setCell ⟨p, 0, none⟩ v) B p v uv n' m X' Y := by
  have hp1 : (w.alloc o).heap[p]? = some (.cells #[wv, uv] 33 (0, 0)) := (Below.heap_alloc _ _ _ (lt_of_heap h.box)).trans h.box
  have hp2 : w2.heap[p]? = some (.cells #[wv, uv] 33 (0, 0)) := (hg.block p (lt_of_heap hp1) (fun e => not_row h.box h.ow e.symm)).trans hp1
  have hu2 : w2.ownsRow B 29 1 uv m Y := (h.ou.alloc o).kept hg (by
    cases hb : uv.ownBlock with
    | none => exact .inl rfl
    | some k => exact .inr (fun e => h.ap k e.symm hb))
  refine ⟨hp2, heap_set hp2 0 v, ownsRow_setCell_other ho (not_row hp2 ho) v, ownsRow_setCell_other hu2 (not_row hp2 hu2) v, ?_, h.le⟩
  intro k hk hu
  rcases hat with e | e
  · exact h.ap k (e ▸ hk) hu
  · have h2 := ((h.ou).lt k hu).2
    rw [hk] at e
    have e' := Option.some.inj e
    omega

/-- One word 0 more at the end of the marks. -/
theorem BS.growU {w w2 : World} {B p n m : Nat} {wv uv v : Value} {X Y : List Value} {o : Obj} (h : BS w B p wv uv n m X Y) {Y' : List Value} {m' : Nat}
    (ho : w2.ownsRow B 29 1 v m' Y') (hg : (w.alloc o).grownBy w2 uv.ownBlock) (hat : v.ownBlock = uv.ownBlock ∨ v.ownBlock = some (w.heap.size + 1)) :
    w2.heap[p]? = some (.cells #[wv, uv] 33 (0, 0)) ∧ BS (w2.setCell ⟨p, 1, none⟩ v) B p wv v n m' X Y' := by
  have hp1 : (w.alloc o).heap[p]? = some (.cells #[wv, uv] 33 (0, 0)) := (Below.heap_alloc _ _ _ (lt_of_heap h.box)).trans h.box
  have hp2 : w2.heap[p]? = some (.cells #[wv, uv] 33 (0, 0)) := (hg.block p (lt_of_heap hp1) (fun e => not_row h.box h.ou e.symm)).trans hp1
  have hu2 : w2.ownsRow B 29 1 wv n X := (h.ow.alloc o).kept hg (by
    cases hb : wv.ownBlock with
    | none => exact .inl rfl
    | some k => exact .inr (fun e => h.ap k hb e.symm))
  refine ⟨hp2, heap_set hp2 1 v, ownsRow_setCell_other hu2 (not_row hp2 hu2) v, ownsRow_setCell_other ho (not_row hp2 ho) v, ?_, h.le⟩
  intro k hk hu
  rcases hat with e | e
  · exact h.ap k hk (e ▸ hu)
  · have h2 := ((h.ow).lt k hk).2
    rw [hu] at e
    have e' := Option.some.inj e
    omega

end Go.Proofs.Qxb6617616a.Pre
