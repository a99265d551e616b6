/-
  SEAT b6617665a. Five new rows, side by side: a layout in the making.
-/
import Derived.Test.Qxb6617665aPlain

namespace Go.Proofs.Qxb6617665a.Pre

open Go.RowKit

structure Rows5 (w : World) (B m : Nat) (G : Nat → Fd) : Prop where
  r0 : w.rowIs B 9 m (fun j => .string (G j).name)
  r1 : w.rowIs (B + 1) 9 m (fun j => .string (G j).key)
  r2 : w.rowIs (B + 2) 3 m (fun j => .int .i64 (G j).start)
  r3 : w.rowIs (B + 3) 3 m (fun j => .int .i64 (G j).width)
  r4 : w.rowIs (B + 4) 5 m (fun j => .int .u8 (G j).kind)

def set5 (w : World) (B k : Nat) (f : Fd) : World :=
  ((((w.setCell ⟨B, k, none⟩ (.string f.name)).setCell ⟨B + 1, k, none⟩ (.string f.key)).setCell ⟨B + 2, k, none⟩ (.int .i64 f.start)).setCell ⟨B + 3, k, none⟩ (.int .i64 f.width)).setCell ⟨B + 4, k, none⟩ (.int .u8 f.kind)

theorem Rows5.set {w : World} {B m : Nat} {G : Nat → Fd} (h : Rows5 w B m G) (k : Nat) (f : Fd) : Rows5 (set5 w B k f) B m (fun j => if j = k then f else G j) := by
  unfold set5
  refine ⟨?_, ?_, ?_, ?_, ?_⟩
  · refine (((((h.r0.set k (.string f.name)).setOther (by simp) _).setOther (by simp) _).setOther (by simp) _).setOther (by simp) _).congr (fun j _ => ?_)
    by_cases e : j = k <;> simp [e]
  · refine (((((h.r1.setOther (by simp) _).set k (.string f.key)).setOther (by simp) _).setOther (by simp) _).setOther (by simp) _).congr (fun j _ => ?_)
    by_cases e : j = k <;> simp [e]
  · refine (((((h.r2.setOther (by simp) _).setOther (by simp) _).set k (.int .i64 f.start)).setOther (by simp) _).setOther (by simp) _).congr (fun j _ => ?_)
    by_cases e : j = k <;> simp [e]
  · refine (((((h.r3.setOther (by simp) _).setOther (by simp) _).setOther (by simp) _).set k (.int .i64 f.width)).setOther (by simp) _).congr (fun j _ => ?_)
    by_cases e : j = k <;> simp [e]
  · refine (((((h.r4.setOther (by simp) _).setOther (by simp) _).setOther (by simp) _).setOther (by simp) _).set k (.int .u8 f.kind)).congr (fun j _ => ?_)
    by_cases e : j = k <;> simp [e]

theorem Rows5.congr {w : World} {B m : Nat} {G G' : Nat → Fd} (h : Rows5 w B m G) (e : ∀ j, j < m → G j = G' j) : Rows5 w B m G' :=
  ⟨h.r0.congr fun j hj => by rw [e j hj], h.r1.congr fun j hj => by rw [e j hj], h.r2.congr fun j hj => by rw [e j hj], h.r3.congr fun j hj => by rw [e j hj], h.r4.congr fun j hj => by rw [e j hj]⟩

theorem set5_below {B0 B k : Nat} {w0 w : World} (f : Fd) (h : Below B0 w0 w) (hB : B0 ≤ B) : Below B0 w0 (set5 w B k f) :=
  ((((h.setCell (p := ⟨B, k, none⟩) hB _).setCell (p := ⟨B + 1, k, none⟩) (Nat.le_succ_of_le hB) _).setCell (p := ⟨B + 2, k, none⟩) (show B0 ≤ B + 2 by omega) _).setCell (p := ⟨B + 3, k, none⟩) (show B0 ≤ B + 3 by omega) _).setCell (p := ⟨B + 4, k, none⟩) (show B0 ≤ B + 4 by omega) _

def made5 (w : World) (m : Nat) : World :=
  ((((w.alloc (.cells (madeCells #[.string ⟨#[]⟩] m) 9)).alloc (.cells (madeCells #[.string ⟨#[]⟩] m) 9)).alloc (.cells (madeCells #[.int .i64 0] m) 3)).alloc (.cells (madeCells #[.int .i64 0] m) 3)).alloc (.cells (madeCells #[.int .u8 0] m) 5)

theorem made_row {w : World} {B : Nat} (z : Value) (m : Nat) (t : TypeId) (hB : B = w.heap.size) : (w.alloc (.cells (madeCells #[z] m) t)).rowIs B t m (fun _ => z) := by
  subst hB; exact World.rowIs_made w z m t

theorem Rows5.made (w : World) (m : Nat) : Rows5 (made5 w m) w.heap.size m (fun _ => Fd.zero) := by
  unfold made5
  refine ⟨?_, ?_, ?_, ?_, ?_⟩
  · exact ((((made_row (.string ⟨#[]⟩) m 9 rfl).alloc _).alloc _).alloc _).alloc _
  · exact (((made_row (.string ⟨#[]⟩) m 9 (by simp)).alloc _).alloc _).alloc _
  · exact ((made_row (.int .i64 0) m 3 (by simp)).alloc _).alloc _
  · exact (made_row (.int .i64 0) m 3 (by simp)).alloc _
  · exact made_row (.int .u8 0) m 5 (by simp)

theorem made5_below (w : World) (m : Nat) : Below w.heap.size w (made5 w m) :=
  (((((Below.refl w.heap.size w).alloc (Nat.le_refl _) _).alloc (by simp) _).alloc (by simp; omega) _).alloc (by simp; omega) _).alloc (by simp; omega) _

theorem Rows5.five {w : World} {B m : Nat} {G : Nat → Fd} (h : Rows5 w B m G) :
    Five w (some ⟨B, 0, none⟩) (some ⟨B + 1, 0, none⟩) (some ⟨B + 2, 0, none⟩) (some ⟨B + 3, 0, none⟩) (some ⟨B + 4, 0, none⟩) m G :=
  ⟨.inr ⟨B, 0, rfl, fun i hi => by rw [Nat.zero_add]; exact h.r0.cell hi⟩, .inr ⟨B + 1, 0, rfl, fun i hi => by rw [Nat.zero_add]; exact h.r1.cell hi⟩, .inr ⟨B + 2, 0, rfl, fun i hi => by rw [Nat.zero_add]; exact h.r2.cell hi⟩,
    .inr ⟨B + 3, 0, rfl, fun i hi => by rw [Nat.zero_add]; exact h.r3.cell hi⟩, .inr ⟨B + 4, 0, rfl, fun i hi => by rw [Nat.zero_add]; exact h.r4.cell hi⟩⟩

theorem Mine.at {w : World} {a : Option Addr} {n c : Nat} {V : Nat → Value} (h : Mine w a n c V) {i : Nat} (hi : i < n) : ∃ g, a = some ⟨g, 0, none⟩ ∧ w.cell? ⟨g, i, none⟩ = some (V i) ∧ g < w.heap.size := by
  obtain ⟨_, ⟨_, h0⟩ | ⟨g, rfl⟩, hr⟩ := h
  · omega
  · obtain ⟨b, off, e, hc⟩ := hr.at hi
    cases e
    rw [Nat.zero_add] at hc
    exact ⟨_, rfl, hc, World.block_lt_of_cell? _ _ hc⟩

end Go.Proofs.Qxb6617665a.Pre
