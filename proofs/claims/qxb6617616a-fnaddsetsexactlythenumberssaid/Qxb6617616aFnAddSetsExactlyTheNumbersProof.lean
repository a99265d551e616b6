/-
  SEAT b6617616a. The proof of 'Rows.FnAddSetsExactlyTheNumbersSaid', on the seat's shell.
-/
import Derived.Test.Qxb6617616aRows
import Derived.Test.Qxb6617616aLawA
import Derived.Test.Qxb6617616aGuards
import Derived.WalkKit
import Derived.ProofKit
import Derived.OpenShut
import Derived.ShutString
import Derived.ChangeOld
import Derived.Below
namespace Go.Proofs.Qxb6617616a.fnAddSetsExactlyTheNumbers
open Go.ChangeShapes Go.WideShapes Go.ChangeAt Go.RowKit
open Go.ChangeMaps (open_string shut_string)
set_option linter.unusedVariables false

theorem own : ownKnob Try.prog.godebug = none := by kernel_rfl
theorem laidOut : laidOutB Try.prog = true := by kernel_rfl

/-- WHAT THE WALK IS TOLD OF A SLICE OF INTEGERS THAT CAME IN: it is nil; or it leads to a row of 'cap' cells, the numbers 'zs' (the first 'len' are its elements, the rest its spare room), each fitting its kind. -/
def IsRow (k : IntKind) (w : World) (a : Option Addr) (len cap : Nat) (zs : List Int) : Prop :=
  (a = none ∧ len = 0 ∧ cap = 0 ∧ zs = []) ∨
  ∃ x, a = some x ∧ len ≤ cap ∧ cap ≤ maxLen ∧ zs.length = cap ∧ (∀ i, i < zs.length → w.cell? (x.add i) = some (.int k (zs.getD i 0))) ∧ ∀ n ∈ zs, (Lit.int k n).wf = true

theorem rd_of {w : World} {a : Option Addr} {len cap : Nat} {zs : List Int} (h : IsRow .u64 w a len cap zs) :
    (a = none → len = 0) ∧ ∃ xs : List Nat, xs.length = len ∧ Pre.Rd w a (Pre.wl xs) ∧ Pre.Fits xs := by
  rcases h with ⟨rfl, rfl, hc, _⟩ | ⟨x, rfl, hl, _, hz, hc, hw⟩
  · exact ⟨fun _ => rfl, [], rfl, .inl rfl, fun w => by simp⟩
  · have hr : ∀ z ∈ zs, 0 ≤ z ∧ z < 18446744073709551616 := by
      intro z hz
      have h : IntKind.u64.min ≤ z ∧ z ≤ IntKind.u64.max := by simpa [Lit.wf] using hw z hz
      have h1 : (0 : Int) ≤ z := h.1
      have h2 : z ≤ 18446744073709551615 := h.2
      omega
    refine ⟨(fun h => by cases h), (zs.take len).map Int.toNat, by rw [List.length_map, List.length_take]; omega, ?_, ?_⟩
    · by_cases h0 : len = 0
      · exact .inl (by simp [h0, Pre.wl])
      · have h1 := hc 0 (by omega)
        obtain ⟨b, off, spot⟩ := x
        have h2 : spot = none := World.cell?_spot h1
        subst h2
        refine .inr ⟨b, off, rfl, fun i v hv => ?_⟩
        have hi : i < len := by
          have := (List.getElem?_eq_some_iff.1 hv).1
          simp [Pre.wl] at this
          omega
        have hcell := hc i (by omega)
        rw [Pre.add_pl] at hcell
        rw [hcell, ← hv]
        simp only [Pre.wl, List.getElem?_map, List.getElem?_take, if_pos hi, Option.map_map]
        rw [List.getD_eq_getElem?_getD, List.getElem?_eq_getElem (by omega)]
        have := hr zs[i] (List.getElem_mem _)
        simp
        omega
    · intro k
      rw [List.getD_eq_getElem?_getD]
      simp only [List.getElem?_map, List.getElem?_take]
      split
      · cases hk : zs[k]? with
        | none => simp
        | some z =>
          have := hr z (List.mem_of_getElem? hk)
          simp
          omega
      · simp

/-! ### STEP 1: THE WALK: the Go text returns true, AND WRITES NOTHING THAT WAS THERE: 'Below w.heap.size w w'' (Derived/Below.lean: '.refl', '.alloc', '.drew', '.setCell' at a new block, '.trans'). Open each 'IsRow' by 'rcases' AHEAD of 'go_enter'; part every test ahead of the walk. -/
theorem walk (a0 : Option Addr) (len0 cap0 : Nat) (z0 : List Int) (a1 : Option Addr) (len1 cap1 : Nat) (z1 : List Int) (a2 : Int) (a3 : Int) (w : World) (w0 : IsRow .u64 w a0 len0 cap0 z0) (w1 : IsRow .u64 w a1 len1 cap1 z1) (w2 : (Lit.int .i64 a2).wf = true) (w3 : (Lit.int .i64 a3).wf = true) :
    Calls Try.prog 3 #[.slice a0 len0 cap0, .slice a1 len1 cap1, .int .i64 a2, .int .i64 a3] w fun e w' => e = .returned (.bool true) ∧ Below w.heap.size w w' := by
  obtain ⟨nil0, xs0, len0', rd0, fx0⟩ := rd_of w0
  obtain ⟨nil1, xs1, len1', rd1, fx1⟩ := rd_of w1
  by_cases c1 : len0 ≤ 1048576
  · by_cases c2 : len1 ≤ 1048576
    · by_cases c3 : len0 + len1 ≤ 1048576
      · by_cases c4 : len0 ≤ 65536
        · by_cases c5 : len1 ≤ 65536
          · by_cases c6 : a2 < 0
            · exact Law.guard6 a0 len0 cap0 a1 len1 cap1 a2 a3 w c4 c5 c6
            · by_cases c7 : 4194304 ≤ a2
              · exact Law.guard7 a0 len0 cap0 a1 len1 cap1 a2 a3 w c4 c5 c6 c7
              · by_cases c8 : a3 < 0
                · exact Law.guard8 a0 len0 cap0 a1 len1 cap1 a2 a3 w c4 c5 c6 (by omega) c8
                · by_cases c9 : 4194304 ≤ a3
                  · exact Law.guard9 a0 len0 cap0 a1 len1 cap1 a2 a3 w c4 c5 c6 (by omega) c8 c9
                  · obtain ⟨i, hi⟩ : ∃ i : Nat, a2 = (i : Int) := ⟨a2.toNat, by omega⟩
                    obtain ⟨j, hj⟩ : ∃ j : Nat, a3 = (j : Int) := ⟨a3.toNat, by omega⟩
                    subst hi hj
                    exact Law.main_walk a0 len0 cap0 xs0 a1 len1 cap1 xs1 i j w rd0 rd1 nil0 nil1 len0' len1' c4 c5 (by omega) (by omega) fx0 fx1
          · exact Law.guard5 a0 len0 cap0 a1 len1 cap1 a2 a3 w c2 c3 c4 (by omega)
        · exact Law.guard4 a0 len0 cap0 a1 len1 cap1 a2 a3 w c1 c2 c3 (by omega)
      · exact Law.guard3 a0 len0 cap0 a1 len1 cap1 a2 a3 w c1 c2 (by omega)
    · exact Law.guard2 a0 len0 cap0 a1 len1 cap1 a2 a3 w c1 (by omega)
  · exact Law.guard1 a0 len0 cap0 a1 len1 cap1 a2 a3 w (by omega)

/-! ### THE ROW's STEP: WRITTEN OUT: LEAVE IT -/
set_option maxRecDepth 100000 in
theorem lifted (os : Os) (started : os.Started) (H : Type) (enc : TypeId × Value → H) :
    ReturnsInHanded {} Try.checked os 3 .any (Rows.fnAddSetsExactlyTheNumbersSpec.pre6 enc Try.prog Try.f3 Rows.fnAddSetsExactlyTheNumbersRow.domain false) (Rows.fnAddSetsExactlyTheNumbersSpec.post enc Try.prog Try.f3 false true false false) := by
  refine returnsInHanded_of_change (C := Try.checked) own started (by kernel_rfl) Try.func3
    (ChangeSpec.witness6 (enc := enc) (C := Try.checked) false ⟨#[], #[.slice none 0 0, .slice none 0 0, .int .i64 0, .int .i64 0], []⟩ 8 (by kernel_rfl) (by kernel_rfl) (by kernel_rfl) (by kernel_rfl)) ?_
  intro W base args ds gs before hval0 hW hcnd _
  have hval : ∀ (j : Nat) t v, Try.f3.params[j]? = some t → args[j]? = some v → Value.okWide Try.prog W .any base t v := hval0
  have hW' := hW
  obtain ⟨p, q, hA0, hV, rfl, hfz, hnd⟩ := hW
  have hA : DataW.TrodAll enc Try.prog W 0 (fun _ => true) true Try.f3.params.toList args.toList ds p := hA0
  rw [Try.params3] at hA hval
  obtain ⟨v0, vs0, d0, ds0, p0, q0, hargs, rfl, rfl, h0, r0⟩ := trodAll_cons hA
  obtain ⟨v1, vs1, d1, ds1, p1, q1, rfl, rfl, rfl, h1, r1⟩ := trodAll_cons r0
  obtain ⟨v2, vs2, d2, ds2, p2, q2, rfl, rfl, rfl, h2, r2⟩ := trodAll_cons r1
  obtain ⟨v3, vs3, d3, ds3, p3, q3, rfl, rfl, rfl, h3, r3⟩ := trodAll_cons r2
  obtain ⟨rfl, rfl, rfl⟩ := trodAll_nil r3
  obtain rfl : args = #[v0, v1, v2, v3] := by cases args; simp_all
  obtain ⟨rfl, rfl⟩ := trodVars_none hV
  obtain ⟨a0, len0, cap0, rfl⟩ := okWide_slice Try.underlying22 (hval 0 22 v0 rfl rfl)
  have k0 := h0
  have lt0 : ∀ x ∈ p0, x.block < W.heap.size := by obtain ⟨m, hm⟩ := k0; exact DataW.trod_lt m _ _ _ hm
  obtain ⟨z0, w0⟩ : ∃ zs, IsRow .u64 W a0 len0 cap0 zs := by
    obtain ⟨fuel, hf⟩ := h0
    rcases open_ints Try.underlying22 Try.underlying29 (by kernel_rfl) hf with ⟨hcs, _⟩ | ⟨x, l, c, zs, hcs, _, hl, hm, hz, _, hcell, hwz⟩
    · simp [Value.cells] at hcs
      obtain ⟨rfl, rfl, rfl⟩ := hcs
      exact ⟨[], .inl ⟨rfl, rfl, rfl, rfl⟩⟩
    · simp [Value.cells] at hcs
      obtain ⟨rfl, rfl, rfl⟩ := hcs
      exact ⟨zs, .inr ⟨_, rfl, hl, hm, by simpa using hz, hcell, hwz⟩⟩
  obtain ⟨a1, len1, cap1, rfl⟩ := okWide_slice Try.underlying22 (hval 1 22 v1 rfl rfl)
  have k1 := h1
  have lt1 : ∀ x ∈ p1, x.block < W.heap.size := by obtain ⟨m, hm⟩ := k1; exact DataW.trod_lt m _ _ _ hm
  obtain ⟨z1, w1⟩ : ∃ zs, IsRow .u64 W a1 len1 cap1 zs := by
    obtain ⟨fuel, hf⟩ := h1
    rcases open_ints Try.underlying22 Try.underlying29 (by kernel_rfl) hf with ⟨hcs, _⟩ | ⟨x, l, c, zs, hcs, _, hl, hm, hz, _, hcell, hwz⟩
    · simp [Value.cells] at hcs
      obtain ⟨rfl, rfl, rfl⟩ := hcs
      exact ⟨[], .inl ⟨rfl, rfl, rfl, rfl⟩⟩
    · simp [Value.cells] at hcs
      obtain ⟨rfl, rfl, rfl⟩ := hcs
      exact ⟨zs, .inr ⟨_, rfl, hl, hm, by simpa using hz, hcell, hwz⟩⟩
  obtain ⟨a2, rfl, rfl, rfl, w2⟩ := open_int Try.underlying3 (hval 2 3 v2 rfl rfl) h2
  obtain ⟨a3, rfl, rfl, rfl, w3⟩ := open_int Try.underlying3 (hval 3 3 v3 rfl rfl) h3
  clear hA0 hval0
  refine (walk a0 len0 cap0 z0 a1 len1 cap1 z1 a2 a3 W w0 w1 w2 w3).mono fun e W' ⟨he, bel⟩ => ?_
  subst he
  exact ⟨_, rfl, _, _, _, [], _, [], hW', trodAll_mk1 (shut_bool Try.underlying4 _), (trodAll_cons_mk (Below.trod laidOut (by kernel_rfl) (of_decide_eq_true (by kernel_rfl)) k0 bel lt0) (trodAll_cons_mk (Below.trod laidOut (by kernel_rfl) (of_decide_eq_true (by kernel_rfl)) k1 bel lt1) (trodAll_cons_mk (shut_int Try.underlying3 w2) (trodAll_cons_mk (shut_int Try.underlying3 w3) trodAll_mk0)))), rfl, bel.frame _, fun h => by cases h⟩

theorem over : Rows.fnAddSetsExactlyTheNumbersRow.holds Try.pinned (OpenSpec.ofChange Rows.fnAddSetsExactlyTheNumbersSpec) :=
  OpenClaim.holds_of_wide 3 Try.f3 rfl rfl rfl rfl rfl rfl rfl ⟨rfl, rfl, rfl, rfl, rfl⟩ rfl rfl rfl rfl rfl (by kernel_rfl) Try.func3 (by kernel_rfl)
    (of_decide_eq_true (by kernel_rfl)) (by unfold Func.isWrapper; first | (rw [if_pos (by decide +kernel)]; kernel_rfl) | (rw [if_neg (by decide +kernel)]; exact ⟨rfl, rfl⟩))
    (fun os started H enc _ => lifted os started H enc)

/-- ████ THE STATEMENT ████ -/
theorem proved : Rows.FnAddSetsExactlyTheNumbersSaid := over
#print axioms proved
end Go.Proofs.Qxb6617616a.fnAddSetsExactlyTheNumbers
