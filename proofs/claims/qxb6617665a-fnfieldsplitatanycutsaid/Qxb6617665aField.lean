/-
  SEAT b6617665a. (layout).field (function 9): the first field with the key, or the zero field.
-/
import Derived.Test.Qxb6617665aBase
import Derived.WalkSpells
import Derived.Deep.QuietTactic
import Derived.BigQuiet
import Derived.OwnWalk

namespace Go.Proofs.Qxb6617665a.Pre

open Go.RowKit

/-- A field. -/
structure Fd where
  name : ByteArray
  key : ByteArray
  start : Int
  width : Int
  kind : Int

/-- Its five cells. -/
def cellF (f : Fd) : Nat → Value
  | 0 => .string f.name
  | 1 => .string f.key
  | 2 => .int .i64 f.start
  | 3 => .int .i64 f.width
  | _ => .int .u8 f.kind

def Fd.agg (f : Fd) : Value := .agg #[.string f.name, .string f.key, .int .i64 f.start, .int .i64 f.width, .int .u8 f.kind]

def Fd.zero : Fd := ⟨⟨#[]⟩, ⟨#[]⟩, 0, 0, 0⟩

/-- Is q the field's key? (As the model compares.) -/
def keq (f : Fd) (q : ByteArray) : Bool := f.key.toList == q.toList

/-- The first of the fields F 0 .. F (n-1), from i on, with key q. -/
def firstFrom (F : Nat → Fd) (q : ByteArray) : Nat → Nat → Option Fd
  | 0, _ => none
  | k + 1, i => if keq (F i) q = true then some (F i) else firstFrom F q k (i + 1)

/-- n fields lie at block g. -/
def Lay (w : World) (g n : Nat) (F : Nat → Fd) : Prop := ∀ i, i < n → ∀ c, c < 5 → w.cell? ⟨g, i * 5 + c, none⟩ = some (cellF (F i) c)

theorem cell_of {w : World} {b : Nat} {c : Array Value} {t : TypeId} (h : w.heap[b]? = some (.cells c t (0, 0))) (i : Nat) : w.cell? ⟨b, i, none⟩ = c[i]? := by
  simp [World.cell?, h]
theorem frozen_of {w : World} {b : Nat} {c : Array Value} {t : TypeId} (h : w.heap[b]? = some (.cells c t (0, 0))) (i : Nat) : w.frozen? ⟨b, i, none⟩ = false := by
  simp [World.frozen?, h]

theorem heap_set {w : World} {b : Nat} {c : Array Value} {t : TypeId} (h : w.heap[b]? = some (.cells c t (0, 0))) (i : Nat) (v : Value) :
    (w.setCell ⟨b, i, none⟩ v).heap[b]? = some (.cells (c.setIfInBounds i v) t (0, 0)) := by
  simp [World.setCell, Array.getElem?_modify, h]

/-- A field stored whole at the head of a block of one field. -/
def putF (w : World) (b : Nat) (f : Fd) : World :=
  ((((w.setCell ⟨b, 0, none⟩ (.string f.name)).setCell ⟨b, 1, none⟩ (.string f.key)).setCell ⟨b, 2, none⟩ (.int .i64 f.start)).setCell ⟨b, 3, none⟩ (.int .i64 f.width)).setCell ⟨b, 4, none⟩ (.int .u8 f.kind)

theorem putF_heap {w : World} {b : Nat} {v0 v1 v2 v3 v4 : Value} (f : Fd) (h : w.heap[b]? = some (.cells #[v0, v1, v2, v3, v4] 34 (0, 0))) :
    (putF w b f).heap[b]? = some (.cells #[.string f.name, .string f.key, .int .i64 f.start, .int .i64 f.width, .int .u8 f.kind] 34 (0, 0)) :=
  heap_set (heap_set (heap_set (heap_set (heap_set h 0 _) 1 _) 2 _) 3 _) 4 _

theorem putF_below {B : Nat} {w0 w : World} {b : Nat} (f : Fd) (h : Below B w0 w) (hb : B ≤ b) : Below B w0 (putF w b f) :=
  ((((h.setCell (p := ⟨b, 0, none⟩) hb _).setCell (p := ⟨b, 1, none⟩) hb _).setCell (p := ⟨b, 2, none⟩) hb _).setCell (p := ⟨b, 3, none⟩) hb _).setCell (p := ⟨b, 4, none⟩) hb _

theorem field_result {W : World} {b : Nat} {a : Act} {f : Fd} {x : Bool} (h : W.heap[b]? = some (.cells #[.string f.name, .string f.key, .int .i64 f.start, .int .i64 f.width, .int .u8 f.kind] 34 (0, 0)))
    (h4 : a.tmps[4]?.getD undef = .pointer (some ⟨b, 0, none⟩)) (h5 : a.tmps[5]?.getD undef = .bool x) : (results Try.f9 a.tmps).run Try.prog W = .ok (.tuple #[f.agg, .bool x]) W := by
  have c0 : W.cell? ⟨b, 0, none⟩ = some (.string f.name) := by rw [cell_of h]; rfl
  have c1 : W.cell? ⟨b, 1, none⟩ = some (.string f.key) := by rw [cell_of h]; rfl
  have c2 : W.cell? ⟨b, 2, none⟩ = some (.int .i64 f.start) := by rw [cell_of h]; rfl
  have c3 : W.cell? ⟨b, 3, none⟩ = some (.int .i64 f.width) := by rw [cell_of h]; rfl
  have c4 : W.cell? ⟨b, 4, none⟩ = some (.int .u8 f.kind) := by rw [cell_of h]; rfl
  simp [results, Try.results9, go_sem, h4, h5, c0, c1, c2, c3, c4, Fd.agg]

set_option maxHeartbeats 4000000 in
theorem field_any (g n : Nat) (F : Nat → Fd) (q : ByteArray) (hn : n ≤ 1048576) (w : World) (hL : Lay w g n F) (hg : 0 < n → g < w.heap.size) :
    Calls Try.prog 9 #[.slice (some ⟨g, 0, none⟩) n n, .string q] w fun e w' => (∃ o : Option Fd, o = firstFrom F q n 0 ∧ e = .returned (.tuple #[(o.getD Fd.zero).agg, .bool o.isSome])) ∧ Below w.heap.size w w' := by
  go_enter Try.func9, Try.ntmps9
  go_wp2_with fail
  go_loopw [10] (fun i wr => ∃ k : Nat, k ≤ n ∧ i = .int .i64 k ∧ firstFrom F q n 0 = firstFrom F q (n - k) k ∧ wr.heap[w.heap.size]? = some (.cells #[.string ⟨#[]⟩, .string ⟨#[]⟩, .int .i64 0, .int .i64 0, .int .u8 0] 34 (0, 0)) ∧ Below w.heap.size w wr) (fun i _ => n - (intOf i).toNat)
  case atStart => exact ⟨0, Nat.zero_le _, rfl, rfl, heap_alloc_new _ _, (Below.refl _ _).alloc (Nat.le_refl _) _⟩
  case round =>
    obtain ⟨k, hkn, rfl, hfk, hbx, hbel⟩ := hrel
    have r0 : wr.cell? ⟨w.heap.size, 0, none⟩ = some (.string ⟨#[]⟩) := by rw [cell_of hbx]; rfl
    have r1 : wr.cell? ⟨w.heap.size, 1, none⟩ = some (.string ⟨#[]⟩) := by rw [cell_of hbx]; rfl
    have r2 : wr.cell? ⟨w.heap.size, 2, none⟩ = some (.int .i64 0) := by rw [cell_of hbx]; rfl
    have r3 : wr.cell? ⟨w.heap.size, 3, none⟩ = some (.int .i64 0) := by rw [cell_of hbx]; rfl
    have r4 : wr.cell? ⟨w.heap.size, 4, none⟩ = some (.int .u8 0) := by rw [cell_of hbx]; rfl
    have fz := fun i => frozen_of hbx i
    have hsz := lt_of_heap hbx
    have hne : w.heap.size ≠ wr.heap.size := by omega
    by_cases hlt : k < n
    · have hgl := hg (by omega)
      have c0 : wr.cell? ⟨g, k * 5, none⟩ = some (.string (F k).name) := (hbel.cell (p := ⟨g, _, none⟩) hgl).trans (hL k hlt 0 (by omega))
      have c1 : wr.cell? ⟨g, k * 5 + 1, none⟩ = some (.string (F k).key) := (hbel.cell (p := ⟨g, _, none⟩) hgl).trans (hL k hlt 1 (by omega))
      have c2 : wr.cell? ⟨g, k * 5 + 2, none⟩ = some (.int .i64 (F k).start) := (hbel.cell (p := ⟨g, _, none⟩) hgl).trans (hL k hlt 2 (by omega))
      have c3 : wr.cell? ⟨g, k * 5 + 3, none⟩ = some (.int .i64 (F k).width) := (hbel.cell (p := ⟨g, _, none⟩) hgl).trans (hL k hlt 3 (by omega))
      have c4 : wr.cell? ⟨g, k * 5 + 4, none⟩ = some (.int .u8 (F k).kind) := (hbel.cell (p := ⟨g, _, none⟩) hgl).trans (hL k hlt 4 (by omega))
      obtain ⟨f, hf⟩ : ∃ f, f = F k := ⟨_, rfl⟩
      rw [← hf] at c0 c1 c2 c3 c4
      have HF : Hid (f = F k) := hf
      have HB : Hid _ := And.intro hbx (And.intro hfk hbel)
      clear hf hbx hfk hbel hL
      cases hkey : keq f q with
      | true =>
        have hk' : (f.key.toList == q.toList) = true := hkey
        go_wp2_with fail
        have hb1 := putF_heap f HB.out.1
        have hb2 := ((Below.heap_alloc (putF wr w.heap.size f) (.cells #[.string f.name, .string f.key, .int .i64 f.start, .int .i64 f.width, .int .u8 f.kind] 34) w.heap.size (lt_of_heap hb1)).trans hb1)
        refine bodyPost_ret (v := .tuple #[f.agg, .bool true]) (field_result hb2 rfl rfl) rfl ⟨⟨some f, ?_, rfl⟩, ?_⟩
        · rw [HB.out.2.1, show n - k = (n - k - 1) + 1 by omega, firstFrom, ← HF.out, if_pos hkey]
        · exact (putF_below f HB.out.2.2 (Nat.le_refl _)).alloc (Nat.le_trans HB.out.2.2.size (putF_below f (Below.refl w.heap.size wr) (Nat.le_refl _)).size) _
      | false =>
        have hk' : (f.key.toList == q.toList) = false := hkey
        go_wp2_with fail
        refine ⟨⟨k + 1, by omega, by go_num, ?_, ?_, ?_⟩, by simp [intOf]; omega⟩
        · rw [HB.out.2.1, show n - k = (n - (k + 1)) + 1 by omega, firstFrom, ← HF.out, hkey]
          rfl
        · exact (Below.heap_alloc _ _ _ hsz).trans HB.out.1
        · exact HB.out.2.2.alloc HB.out.2.2.size _
    · have hfn : firstFrom F q n 0 = none := by rw [hfk, show n - k = 0 by omega]; rfl
      have HB : Hid _ := And.intro hbx (And.intro hfn hbel)
      clear hbx hfn hfk hbel
      go_wp2_with fail
      have hb1 := putF_heap Fd.zero HB.out.1
      refine bodyPost_ret (v := .tuple #[Fd.zero.agg, .bool false]) (field_result hb1 rfl rfl) rfl ⟨⟨none, HB.out.2.1.symm, rfl⟩, putF_below Fd.zero HB.out.2.2 (Nat.le_refl _)⟩

end Go.Proofs.Qxb6617665a.Pre
