/-
  SEAT b6617665a. Plain words on worlds and rows. 'Fr S w w'': every block of w that S does not name is as it was. 'Rd w a xs': the cells that a leads to hold xs. No Go function in sight.
-/
import Derived.Test.Qxb6617665aRows
import Derived.WalkKit
import Derived.Deep.Draws
import Derived.Deep.OwnRows
import Derived.Laws.CopyOwn
import Derived.Laws.AppendOwn

namespace Go.Proofs.Qxb6617665a.Pre

open Go.RowKit

structure Fr (S : Nat → Prop) (w w' : World) : Prop where
  os : w'.os = w.os
  tape : w'.tape = w.tape
  output : w'.output = w.output
  size : w.heap.size ≤ w'.heap.size
  block : ∀ k, k < w.heap.size → ¬ S k → w'.heap[k]? = w.heap[k]?

theorem Fr.refl (S : Nat → Prop) (w : World) : Fr S w w := ⟨rfl, rfl, rfl, Nat.le_refl _, fun _ _ _ => rfl⟩

theorem Fr.trans {S T : Nat → Prop} {a b c : World} (h : Fr S a b) (k : Fr T b c) (hT : ∀ i, i < a.heap.size → T i → S i) : Fr S a c :=
  ⟨k.os.trans h.os, k.tape.trans h.tape, k.output.trans h.output, Nat.le_trans h.size k.size,
    fun i hi hS => (k.block i (Nat.lt_of_lt_of_le hi h.size) (fun t => hS (hT i hi t))).trans (h.block i hi hS)⟩

theorem Fr.mono {S T : Nat → Prop} {a b : World} (h : Fr S a b) (hT : ∀ i, i < a.heap.size → S i → T i) : Fr T a b :=
  ⟨h.os, h.tape, h.output, h.size, fun i hi hS => h.block i hi (fun t => hS (hT i hi t))⟩

theorem Fr.drew {S : Nat → Prop} {a w : World} (h : Fr S a w) : Fr S a w.drew := ⟨h.os, h.tape, h.output, h.size, h.block⟩

theorem Fr.drewN {S : Nat → Prop} {a w : World} (h : Fr S a w) (n : Nat) : Fr S a (w.drewN n) := ⟨h.os, h.tape, h.output, h.size, h.block⟩

theorem Fr.alloc {S : Nat → Prop} {a w : World} (h : Fr S a w) (o : Obj) : Fr S a (w.alloc o) :=
  h.trans (T := fun _ => False) ⟨rfl, rfl, rfl, by simp, fun k hk _ => Below.heap_alloc _ _ _ hk⟩ (fun _ _ h => h.elim)

theorem Fr.setCell {S : Nat → Prop} {a w : World} (h : Fr S a w) (p : Addr) (u : Value) (hp : p.block < a.heap.size → S p.block) : Fr S a (w.setCell p u) :=
  h.trans (T := fun k => k = p.block) ⟨rfl, rfl, rfl, by simp [World.setCell], fun k _ hk => Below.heap_setCell _ _ _ _ hk⟩ (fun i hi e => by subst e; exact hp hi)

theorem Fr.below {S : Nat → Prop} {B : Nat} {w w' : World} (h : Fr S w w') (hB : B ≤ w.heap.size) (hS : ∀ k, k < B → ¬ S k) : Below B w w' :=
  ⟨h.os, h.tape, h.output, h.size, fun k hk => h.block k (by omega) (hS k hk)⟩

theorem Fr.of_below {w w' : World} (h : Below w.heap.size w w') (S : Nat → Prop) : Fr S w w' := ⟨h.os, h.tape, h.output, h.size, fun k hk _ => h.block k hk⟩

theorem below_drewN {B : Nat} {w w' : World} (h : Below B w w') (n : Nat) : Below B w (w'.drewN n) := ⟨h.os, h.tape, h.output, h.size, h.block⟩

theorem lt_of_heap {w : World} {k : Nat} {o : Obj} (h : w.heap[k]? = some o) : k < w.heap.size := (Array.getElem?_eq_some_iff.1 h).1

theorem add_pl (b o i : Nat) : (⟨b, o, none⟩ : Addr).add i = ⟨b, o + i, none⟩ := by unfold Addr.add; split <;> simp_all

/-! ### Rows that are read -/

def Rd (w : World) (a : Option Addr) (xs : List Value) : Prop :=
  xs = [] ∨ ∃ b off, a = some ⟨b, off, none⟩ ∧ ∀ i v, xs[i]? = some v → w.cell? ⟨b, off + i, none⟩ = some v

theorem Rd.nil (w : World) (a : Option Addr) : Rd w a [] := .inl rfl

theorem Rd.keepAt {w w' : World} {a : Option Addr} {xs : List Value} (h : Rd w a xs) (hf : ∀ x : Addr, a = some x → x.block < w.heap.size → w'.heap[x.block]? = w.heap[x.block]?) : Rd w' a xs := by
  rcases h with h | ⟨b, off, ha, hc⟩
  · exact .inl h
  · refine .inr ⟨b, off, ha, fun i v hv => ?_⟩
    have h1 := hc i v hv
    have hlt := World.block_lt_of_cell? w _ h1
    exact (World.cell?_of_block (w := w) (a := ⟨b, off + i, none⟩) (hf ⟨b, off, none⟩ ha hlt)).trans h1

theorem Rd.keep {S : Nat → Prop} {w w' : World} {a : Option Addr} {xs : List Value} (h : Rd w a xs) (hf : Fr S w w') (hS : ∀ x : Addr, a = some x → x.block < w.heap.size → ¬ S x.block) : Rd w' a xs :=
  h.keepAt fun x hx hlt => hf.block _ hlt (hS x hx hlt)

theorem Rd.below {B : Nat} {w w' : World} {a : Option Addr} {xs : List Value} (h : Rd w a xs) (hf : Below B w w') (hB : ∀ x : Addr, a = some x → x.block < w.heap.size → x.block < B) : Rd w' a xs :=
  h.keepAt fun x hx hlt => hf.block _ (hB x hx hlt)

theorem Rd.since {w w' : World} {a : Option Addr} {xs : List Value} (h : Rd w a xs) (hf : Below w.heap.size w w') : Rd w' a xs :=
  h.below hf fun _ _ h => h

theorem Rd.drewN {w : World} {a : Option Addr} {xs : List Value} (h : Rd w a xs) (n : Nat) : Rd (w.drewN n) a xs := h

theorem Rd.take {w : World} {a : Option Addr} {xs ys : List Value} (h : Rd w a (xs ++ ys)) : Rd w a xs := by
  rcases h with h | ⟨b, off, ha, hc⟩
  · exact .inl (List.append_eq_nil_iff.1 h).1
  · refine .inr ⟨b, off, ha, fun i v hv => hc i v ?_⟩
    rw [List.getElem?_append_left (List.getElem?_eq_some_iff.1 hv).1]; exact hv

theorem Rd.drop {w : World} {b off : Nat} {xs ys : List Value} (h : Rd w (some ⟨b, off, none⟩) (xs ++ ys)) : Rd w (some ⟨b, off + xs.length, none⟩) ys := by
  rcases h with h | ⟨b', off', ha, hc⟩
  · exact .inl (List.append_eq_nil_iff.1 h).2
  · cases ha
    refine .inr ⟨b, off + xs.length, rfl, fun i v hv => ?_⟩
    rw [Nat.add_assoc]
    refine hc (xs.length + i) v ?_
    rw [List.getElem?_append_right (by omega), Nat.add_sub_cancel_left]; exact hv

theorem Rd.at {w : World} {a : Option Addr} {xs : List Value} (h : Rd w a xs) {i : Nat} {v : Value} (hv : xs[i]? = some v) : ∃ b off, a = some ⟨b, off, none⟩ ∧ w.cell? ⟨b, off + i, none⟩ = some v := by
  rcases h with h | ⟨b, off, ha, hc⟩
  · subst h; simp at hv
  · exact ⟨b, off, ha, hc i v hv⟩

/-- A row of the call's own that holds exactly xs. -/
def Row (w : World) (g : Nat) (t : TypeId) (xs : List Value) : Prop := w.heap[g]? = some (.cells xs.toArray t (0, 0))

theorem Row.lt {w : World} {g : Nat} {t : TypeId} {xs : List Value} (h : Row w g t xs) : g < w.heap.size := lt_of_heap h

theorem Row.rd {w : World} {g : Nat} {t : TypeId} {xs : List Value} (h : Row w g t xs) : Rd w (some ⟨g, 0, none⟩) xs :=
  .inr ⟨g, 0, rfl, fun i v hv => by
    have e : w.heap[g]? = some (.cells xs.toArray t (0, 0)) := h
    simp [World.cell?, e, hv]⟩

theorem Row.of_block {w w' : World} {g : Nat} {t : TypeId} {xs : List Value} (h : Row w g t xs) (e : w'.heap[g]? = w.heap[g]?) : Row w' g t xs := e.trans h

theorem Row.since {w w' : World} {g : Nat} {t : TypeId} {xs : List Value} (h : Row w g t xs) (e : Below w.heap.size w w') : Row w' g t xs := h.of_block (e.block g h.lt)

theorem Row.cell {w : World} {g : Nat} {t : TypeId} {xs : List Value} (h : Row w g t xs) (i : Nat) : w.cell? ⟨g, i, none⟩ = xs[i]? := by
  have e : w.heap[g]? = some (.cells xs.toArray t (0, 0)) := h
  simp [World.cell?, e]

theorem Row.frozen {w : World} {g : Nat} {t : TypeId} {xs : List Value} (h : Row w g t xs) (i : Nat) : w.frozen? ⟨g, i, none⟩ = false := by
  have e : w.heap[g]? = some (.cells xs.toArray t (0, 0)) := h
  simp [World.frozen?, e]

theorem Row.set {w : World} {g : Nat} {t : TypeId} {xs : List Value} (h : Row w g t xs) (i : Nat) (v : Value) : Row (w.setCell ⟨g, i, none⟩ v) g t (xs.set i v) := by
  have e : w.heap[g]? = some (.cells xs.toArray t (0, 0)) := h
  show _ = _
  simp [World.setCell, Array.getElem?_modify, e]

theorem Row.alloc {w : World} {g : Nat} {t : TypeId} {xs : List Value} (h : Row w g t xs) (o : Obj) : Row (w.alloc o) g t xs := h.of_block (Below.heap_alloc _ _ _ h.lt)

theorem Row.owns {w : World} {g : Nat} {t : TypeId} {xs : List Value} (h : Row w g t xs) {B n : Nat} (hB : B ≤ g) (hn : xs.length = n) (hm : n ≤ maxLen) : w.ownsRow B t 1 (.slice (some ⟨g, 0, none⟩) n n) n xs :=
  ⟨by omega, .inr ⟨g, n, xs.toArray, rfl, hB, h, Nat.le_refl _, hm, by simp [hn], by simp [← hn]⟩⟩

theorem owns_rd {w : World} {B : Nat} {t : TypeId} {v : Value} {n : Nat} {xs : List Value} (h : w.ownsRow B t 1 v n xs) : ∃ a c, v = .slice a n c ∧ n ≤ c ∧ (a = none → n = 0 ∧ c = 0) ∧ xs.length = n ∧ Rd w a xs ∧ ∀ x : Addr, a = some x → x = ⟨x.block, 0, none⟩ ∧ B ≤ x.block ∧ x.block < w.heap.size := by
  obtain ⟨hl, ⟨rfl, rfl⟩ | ⟨g, cap, cur, rfl, hB, hg, hc, _, hs, hx⟩⟩ := h
  · have e : xs = [] := List.eq_nil_of_length_eq_zero (by omega)
    subst e
    exact ⟨none, 0, rfl, Nat.le_refl _, fun _ => ⟨rfl, rfl⟩, rfl, .inl rfl, fun x h => by cases h⟩
  · refine ⟨_, cap, rfl, hc, (fun h => by cases h), by omega, .inr ⟨g, 0, rfl, fun i v hv => ?_⟩, fun x h => by cases h; exact ⟨rfl, hB, lt_of_heap hg⟩⟩
    rw [Nat.zero_add]
    have e2 : cur.toList[i]? = some v := by
      rw [← hx, List.getElem?_take] at hv
      split at hv
      · exact hv
      · cases hv
    simp [World.cell?, hg]
    simpa using e2

theorem made_list (z : Value) (n : Nat) : madeCells #[z] n = (List.replicate n z).toArray := by
  apply Array.ext_getElem?
  intro i
  have h := World.rowIs_made (default : World) z n 0
  obtain ⟨c, hc, hs, hv⟩ := h
  rw [heap_alloc_new] at hc
  cases hc
  by_cases hi : i < n
  · rw [hv i hi]; simp [hi]
  · rw [Array.getElem?_eq_none (by omega)]; simp; omega

theorem Row.made (w : World) (z : Value) (n : Nat) (t : TypeId) : Row (w.alloc (.cells (madeCells #[z] n) t)) w.heap.size t (List.replicate n z) := by
  show _ = _
  rw [made_list]
  exact heap_alloc_new _ _

/-- 'copy(c, s)' where c is a new row as long as s. -/
theorem run_copy_full {P : Program} (w : World) (dT ty elem : TypeId) (hu : P.underlying dT = some (.slice elem)) (hsz : (P.info? elem).map (·.size) = some 1)
    (sp : Option Addr) (n sCap g : Nat) (cur xs : List Value) (t : TypeId) (hg : Row w g t cur) (hcl : cur.length = n) (hxl : xs.length = n) (hrd : Rd w sp xs) (h1 : ∀ v ∈ xs, v.oneCell' = true)
    (B : Nat) (w0 : World) (hb : Below B w0 w) (hBg : B ≤ g) :
    ∃ w', (Builtin.copy_ #[dT, dT] ty #[.slice (some ⟨g, 0, none⟩) n n, .slice sp n sCap]).run P w = .ok (goInt n) w' ∧ Row w' g t xs ∧ Below B w0 w' := by
  by_cases h0 : n = 0
  · subst h0
    refine ⟨w, run_copy_none w dT dT ty elem _ sp 0 0 0 sCap hu hsz rfl, ?_, hb⟩
    obtain rfl : cur = [] := List.eq_nil_of_length_eq_zero hcl
    obtain rfl : xs = [] := List.eq_nil_of_length_eq_zero hxl
    exact hg
  · rcases hrd with h | ⟨b, off, rfl, hc⟩
    · subst h; simp at hxl; omega
    · have hrun := run_copy_row (P := P) w dT dT ty elem g 0 n n ⟨b, off, none⟩ n sCap cur.toArray t xs hu hsz hg (by rw [hxl]; exact (Nat.min_self n).symm)
        (fun j v hv => by rw [add_pl]; exact hc j v hv) (by simp; omega) h1
      refine ⟨_, by rw [hrun, hxl], ?_, below_setRow hb hBg _⟩
      have := setRow_heap w g cur.toArray (cur.toArray.toList.take 0 ++ xs ++ cur.toArray.toList.drop (0 + xs.length)).toArray t _ hg
      show _ = _
      rw [hxl] at this
      rw [this]
      simp [← hcl]

end Go.Proofs.Qxb6617665a.Pre
