/-
  SEAT b6617665a. ZZLayoutField (function 7): the walk.
-/
import Derived.Test.Qxb6617665aLayout

namespace Go.Proofs.Qxb6617665a.Pre

open Go.RowKit

/-- What a look-up hands back. -/
def ansV (o : Option Fd) : Value :=
  .tuple #[.string (o.getD Fd.zero).name, .string (o.getD Fd.zero).key, .int .i64 (o.getD Fd.zero).start, .int .i64 (o.getD Fd.zero).width, .int .u8 (o.getD Fd.zero).kind, .bool o.isSome]

/-- A field stored whole at place o of block b. -/
def putAt (w : World) (b o : Nat) (f : Fd) : World :=
  ((((w.setCell ⟨b, o, none⟩ (.string f.name)).setCell ⟨b, o + 1, none⟩ (.string f.key)).setCell ⟨b, o + 2, none⟩ (.int .i64 f.start)).setCell ⟨b, o + 3, none⟩ (.int .i64 f.width)).setCell ⟨b, o + 4, none⟩ (.int .u8 f.kind)

theorem putAt_row {w : World} {b n k : Nat} {F : Nat → Fd} (h : w.rowIs b 34 n (layC F k)) : (putAt w b (k * 5) (F k)).rowIs b 34 n (layC F (k + 1)) :=
  (((((h.set (k * 5) (.string (F k).name)).set (k * 5 + 1) (.string (F k).key)).set (k * 5 + 2) (.int .i64 (F k).start)).set (k * 5 + 3) (.int .i64 (F k).width)).set (k * 5 + 4) (.int .u8 (F k).kind)).congr
    (fun j _ => layC_step F k j)

theorem putAt_below {B : Nat} {w0 w : World} {b o : Nat} (f : Fd) (h : Below B w0 w) (hb : B ≤ b) : Below B w0 (putAt w b o f) :=
  ((((h.setCell (p := ⟨b, o, none⟩) hb _).setCell (p := ⟨b, o + 1, none⟩) hb _).setCell (p := ⟨b, o + 2, none⟩) hb _).setCell (p := ⟨b, o + 3, none⟩) hb _).setCell (p := ⟨b, o + 4, none⟩) hb _

theorem lay_of {w : World} {g n : Nat} {F : Nat → Fd} (h : w.rowIs g 34 (n * 5) (layC F n)) : Lay w g n F := by
  intro i hi c hc
  rw [h.cell (by omega)]
  unfold layC
  rw [if_pos (by omega), show (i * 5 + c) / 5 = i by omega, show (i * 5 + c) % 5 = c by omega]

set_option maxHeartbeats 8000000 in
set_option maxRecDepth 100000 in
theorem look_any (a0 a1 a2 a3 a4 : Option Addr) (n c0 c1 c2 c3 c4 : Nat) (F : Nat → Fd) (q : ByteArray) (hn : n ≤ 1048576) (w : World) (h : Five w a0 a1 a2 a3 a4 n F) :
    Calls Try.prog 7 #[.slice a0 n c0, .slice a1 n c1, .slice a2 n c2, .slice a3 n c3, .slice a4 n c4, .string q] w fun e w' => e = .returned (ansV (firstFrom F q n 0)) ∧ Below w.heap.size w w' := by
  have hmk := run_make34 n hn
  go_enter Try.func7, Try.ntmps7
  go_wp2_with fail
  clear hmk
  go_loopw [19] (fun i wr => ∃ k : Nat, k ≤ n ∧ i = .int .i64 k ∧ wr.rowIs w.heap.size 34 (n * 5) (layC F k) ∧ Below w.heap.size w wr) (fun i _ => n - (intOf i).toNat)
  case atStart => exact ⟨0, Nat.zero_le _, rfl, made34 w n F, (Below.refl _ _).alloc (Nat.le_refl _) _⟩
  case round =>
    obtain ⟨k, hkn, rfl, hrow, hbel⟩ := hrel
    by_cases hlt : k < n
    · have h' := h.since hbel
      obtain ⟨b0, o0, rfl, g0⟩ := h'.r0.at hlt
      obtain ⟨b1, o1, rfl, g1⟩ := h'.r1.at hlt
      obtain ⟨b2, o2, rfl, g2⟩ := h'.r2.at hlt
      obtain ⟨b3, o3, rfl, g3⟩ := h'.r3.at hlt
      obtain ⟨b4, o4, rfl, g4⟩ := h'.r4.at hlt
      obtain ⟨f, hf⟩ : ∃ f, f = F k := ⟨_, rfl⟩
      have HF : Hid (f = F k) := hf
      simp only [← hf] at g0 g1 g2 g3 g4
      have x0 : wr.cell? ⟨w.heap.size, k * 5, none⟩ = some (.string ⟨#[]⟩) := (hrow.cell (i := k * 5) (by omega)).trans (congrArg some (layC_old F k 0 (by omega)))
      have x1 : wr.cell? ⟨w.heap.size, k * 5 + 1, none⟩ = some (.string ⟨#[]⟩) := (hrow.cell (by omega)).trans (congrArg some (layC_old F k 1 (by omega)))
      have x2 : wr.cell? ⟨w.heap.size, k * 5 + 2, none⟩ = some (.int .i64 0) := (hrow.cell (by omega)).trans (congrArg some (layC_old F k 2 (by omega)))
      have x3 : wr.cell? ⟨w.heap.size, k * 5 + 3, none⟩ = some (.int .i64 0) := (hrow.cell (by omega)).trans (congrArg some (layC_old F k 3 (by omega)))
      have x4 : wr.cell? ⟨w.heap.size, k * 5 + 4, none⟩ = some (.int .u8 0) := (hrow.cell (by omega)).trans (congrArg some (layC_old F k 4 (by omega)))
      have y0 := hrow.frozen (k * 5)
      have y1 := hrow.frozen (k * 5 + 1)
      have y2 := hrow.frozen (k * 5 + 2)
      have y3 := hrow.frozen (k * 5 + 3)
      have y4 := hrow.frozen (k * 5 + 4)
      have hlti : (k : Int) < (n : Int) := by omega
      clear hf h'
      go_upto_region 5 with fail
      go_still_tail 24, mixed
      have R1 := putAt_row hrow
      have R2 := putAt_below (o := k * 5) f hbel (Nat.le_refl _)
      rw [← HF.out] at R1
      have HR : Hid _ := And.intro R1 R2
      clear R1 R2 hrow hbel
      rw [show ({ heap := wr.heap, tape := wr.tape, drawn := wr.drawn + 1, os := wr.os, output := wr.output } : World) = wr.drew from rfl]
      go_wp2
      refine ⟨⟨k + 1, by omega, by go_num, ?_, ?_⟩, by simp [intOf]; omega⟩
      · exact HR.out.1.drew
      · exact HR.out.2.drew
    · obtain rfl : k = n := by omega
      have hgl := hrow.lt
      have hF := field_any w.heap.size k F q hn wr (lay_of hrow) (fun _ => hgl)
      clear hrow
      go_wp2_with fail
      refine hF.mono ?_
      rintro e w2 ⟨⟨o, ho, rfl⟩, bel2⟩
      obtain ⟨f, hf⟩ : ∃ f, f = o.getD Fd.zero := ⟨_, rfl⟩
      have HO : Hid _ := And.intro ho hf
      rw [← hf]
      simp only [Fd.agg]
      clear hf ho hF
      go_wp2_with fail
      go_quiet (fail)
      go_wp2_with fail
      refine bodyPost_ret (v := .tuple #[.string f.name, .string f.key, .int .i64 f.start, .int .i64 f.width, .int .u8 f.kind, .bool o.isSome]) (by simp [results, Try.results7, go_sem]) rfl ⟨?_, ?_⟩
      · rw [HO.out.2, HO.out.1]; rfl
      · exact below_drewN ((hbel.trans (bel2.mono hbel.size)).alloc (Nat.le_trans hbel.size bel2.size) _) _

end Go.Proofs.Qxb6617665a.Pre
