/-
  SEAT b6616258a. THE LIBRARY's GENERATOR: (*PCG).next (function 36), (*PCG).Uint64 (35), (*Rand).Uint64 (18): what one step does to the state and what it gives.
-/
import Derived.Test.Qxb6616258aMul
import Derived.Test.Qxb6616258aBase
import Derived.Deep.QuietTactic
import Derived.BigQuiet
namespace Go.Proofs.Qxb6616258a.Pcg
open Go.RowKit

/-! ### The plain functions -/
def hiSum (hi lo : Int) : Int :=
  IntKind.u64.wrap (mhi lo 4865540595714422341 + IntKind.u64.wrap (IntKind.u64.wrap (hi * 4865540595714422341) + IntKind.u64.wrap (lo * 2549297995355413924)))
/-- The state's low word behind a step. -/
def sLo (lo : Int) : Int := (mlo lo 4865540595714422341 + 1442695040888963407) % 18446744073709551616
def cy (lo : Int) : Int := (mlo lo 4865540595714422341 + 1442695040888963407) / 18446744073709551616
/-- The state's high word behind a step. -/
def sHi (hi lo : Int) : Int := (hiSum hi lo + 6364136223846793005 + cy lo) % 18446744073709551616

theorem wrap_range (x : Int) : 0 ≤ IntKind.u64.wrap x ∧ IntKind.u64.wrap x < 18446744073709551616 := by rw [IntKind.wrap_u64]; omega
theorem hiSum_range (hi lo : Int) : 0 ≤ hiSum hi lo ∧ hiSum hi lo < 18446744073709551616 := wrap_range _
theorem mlo_range (x y : Int) : 0 ≤ mlo x y ∧ mlo x y < 18446744073709551616 := by unfold mlo; omega
theorem sLo_range (lo : Int) : 0 ≤ sLo lo ∧ sLo lo < 18446744073709551616 := by unfold sLo; omega
theorem sHi_range (hi lo : Int) : 0 ≤ sHi hi lo ∧ sHi hi lo < 18446744073709551616 := by unfold sHi; omega
theorem cy_range (lo : Int) : 0 ≤ cy lo ∧ cy lo ≤ 1 := by have := mlo_range lo 4865540595714422341; unfold cy; omega

theorem add_lo (lo : Int) (w : World) : (callFunc 38 #[.int .u64 (mlo lo 4865540595714422341), .int .u64 1442695040888963407, .int .u64 0]).run Try.prog w =
    .ok (.value (.tuple #[.int .u64 (sLo lo), .int .u64 (cy lo)])) w :=
  add64_0 _ _ (mlo_range _ _).1 (by decide) w
theorem add_hi (hi lo : Int) (w : World) : (callFunc 38 #[.int .u64 (hiSum hi lo), .int .u64 6364136223846793005, .int .u64 (cy lo)]).run Try.prog w =
    .ok (.value (.tuple #[.int .u64 (sHi hi lo), .int .u64 ((hiSum hi lo + 6364136223846793005 + cy lo) / 18446744073709551616)])) w :=
  add64 _ _ _ (hiSum_range _ _).1 (by decide) (cy_range _).1 (cy_range _).2 w

set_option maxHeartbeats 1000000 in
theorem next_any (p : Nat) (hi lo : Int) (l1 : 0 ≤ lo) (l2 : lo < 18446744073709551616) (w : World)
    (hp : w.heap[p]? = some (.cells #[.int .u64 hi, .int .u64 lo] 51 (0, 0))) :
    Calls Try.prog 36 #[.pointer (some ⟨p, 0, none⟩)] w fun e w' => e = .returned (.tuple #[.int .u64 (sHi hi lo), .int .u64 (sLo lo)]) ∧ w'.heap[p]? = some (.cells #[.int .u64 (sHi hi lo), .int .u64 (sLo lo)] 51 (0, 0)) ∧ Fr (· = p) w w' := by
  have c0 : w.cell? ⟨p, 0, none⟩ = some (.int .u64 hi) := by rw [cell_of hp]; rfl
  have c1 : w.cell? ⟨p, 1, none⟩ = some (.int .u64 lo) := by rw [cell_of hp]; rfl
  have f0 := frozen_of hp 0
  have f1 := frozen_of hp 1
  have HP : Hid (w.heap[p]? = some (.cells #[.int .u64 hi, .int .u64 lo] 51 (0, 0))) := hp
  clear hp
  go_enter Try.func36, Try.ntmps36
  go_wp2_with (go_at_call 37; refine (mulL_any _ _ l1 l2 (by decide) (by decide) _).mono ?_; rintro e w' ⟨rfl, rfl⟩)
  go_quiet (fail)
  go_wp2_with fail
  have hH : IntKind.u64.wrap (mhi lo 4865540595714422341 + IntKind.u64.wrap (IntKind.u64.wrap (hi * 4865540595714422341) + IntKind.u64.wrap (lo * 2549297995355413924))) = hiSum hi lo := rfl
  simp only [hH]
  clear hH
  go_wp2_with (first | simp only [add_lo] | simp only [add_hi])
  go_ret2
  refine ⟨rfl, ?_, ?_⟩
  · have := heap_set (heap_set (w := w'.drewN nq) HP.out 1 (.int .u64 (sLo lo))) 0 (.int .u64 (sHi hi lo))
    exact this
  · exact (((Fr.refl (fun x => x = p) w').drewN nq).setCell ⟨p, 1, none⟩ _ (fun _ => rfl)).setCell ⟨p, 0, none⟩ _ (fun _ => rfl)

/-- The output that a state gives (the walk's own form). -/
def dxsm (h l : Int) : Int :=
  IntKind.u64.wrap
    (bits BinOp.xor IntKind.u64 (IntKind.u64.wrap (bits BinOp.xor IntKind.u64 h (h / 4294967296) * 15750249268501108917))
        (IntKind.u64.wrap (bits BinOp.xor IntKind.u64 h (h / 4294967296) * 15750249268501108917) / 281474976710656) *
      bits BinOp.or IntKind.u64 l 1)
theorem dxsm_range (h l : Int) : 0 ≤ dxsm h l ∧ dxsm h l < 18446744073709551616 := wrap_range _
/-- The word that a generator at (hi, lo) gives next. -/
def word (hi lo : Int) : Int := dxsm (sHi hi lo) (sLo lo)
theorem word_range (hi lo : Int) : 0 ≤ word hi lo ∧ word hi lo < 18446744073709551616 := dxsm_range _ _

theorem ret_u64 {a b : Int} (h : a = b) : Ending.returned (.int .u64 a) = .returned (.int .u64 b) := by rw [h]

set_option maxHeartbeats 1000000 in
theorem u64_any (p : Nat) (hi lo : Int) (l1 : 0 ≤ lo) (l2 : lo < 18446744073709551616) (w : World)
    (hp : w.heap[p]? = some (.cells #[.int .u64 hi, .int .u64 lo] 51 (0, 0))) :
    Calls Try.prog 35 #[.pointer (some ⟨p, 0, none⟩)] w fun e w' => e = .returned (.int .u64 (word hi lo)) ∧ w'.heap[p]? = some (.cells #[.int .u64 (sHi hi lo), .int .u64 (sLo lo)] 51 (0, 0)) ∧ Fr (· = p) w w' := by
  have b1 := sHi_range hi lo
  have b2 := sLo_range lo
  go_enter Try.func35, Try.ntmps35
  go_wp2_with (go_at_call 36; refine (next_any p hi lo l1 l2 _ hp).mono ?_; rintro e w' ⟨rfl, hp', hf⟩)
  go_ret
  exact ⟨ret_u64 rfl, hp', hf⟩

theorem method_u64 (a : Addr) (w : World) : (method 179 41 (.pointer (some a)) "Uint64").run Try.prog w = .ok (35, .pointer (some a)) w := by kernel_rfl

set_option maxHeartbeats 1000000 in
theorem rand_any (r p : Nat) (hi lo : Int) (l1 : 0 ≤ lo) (l2 : lo < 18446744073709551616) (w : World)
    (hp : w.heap[p]? = some (.cells #[.int .u64 hi, .int .u64 lo] 51 (0, 0))) (hr : w.cell? ⟨r, 0, none⟩ = some (.iface 41 (.pointer (some ⟨p, 0, none⟩)))) :
    Calls Try.prog 18 #[.pointer (some ⟨r, 0, none⟩)] w fun e w' => e = .returned (.int .u64 (word hi lo)) ∧ w'.heap[p]? = some (.cells #[.int .u64 (sHi hi lo), .int .u64 (sLo lo)] 51 (0, 0)) ∧ Fr (· = p) w w' := by
  have hm := fun w => method_u64 ⟨p, 0, none⟩ w
  go_enter Try.func18, Try.ntmps18
  go_wp2_with (go_at_call 35; refine (u64_any p hi lo l1 l2 _ hp).mono ?_; rintro e w' ⟨rfl, hp', hf⟩)
  go_ret
  exact ⟨rfl, hp', hf⟩
end Go.Proofs.Qxb6616258a.Pcg
