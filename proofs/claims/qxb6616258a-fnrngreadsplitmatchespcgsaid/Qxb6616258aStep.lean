/- SEAT b6616258a. The law's own generator: zzPCGStepB1 (function 12): the same step. -/
import Derived.Test.Qxb6616258aNext
import Derived.Deep.Cut
import Derived.OwnWalk

namespace Go.Proofs.Qxb6616258a.Pcg

open Go.RowKit

theorem sHi_alt (hi lo : Int) : IntKind.u64.wrap (IntKind.u64.wrap (hiSum hi lo + 6364136223846793005) + cy lo) = sHi hi lo := by
  rw [IntKind.wrap_u64, IntKind.wrap_u64]; unfold sHi; omega

theorem sLo_alt (lo : Int) : IntKind.u64.wrap (mlo lo 4865540595714422341 + 1442695040888963407) = sLo lo := by
  rw [IntKind.wrap_u64]; rfl

theorem cy_alt (lo : Int) : cy lo = if sLo lo < mlo lo 4865540595714422341 then 1 else 0 := by
  have := mlo_range lo 4865540595714422341
  unfold cy sLo
  split <;> omega

set_option maxHeartbeats 1000000 in
theorem step_any (hi lo : Int) (l1 : 0 ≤ lo) (l2 : lo < 18446744073709551616) (w : World) :
    Calls Try.prog 12 #[.int .u64 hi, .int .u64 lo] w fun e w' => e = .returned (.tuple #[.int .u64 (sHi hi lo), .int .u64 (sLo lo), .int .u64 (word hi lo)]) ∧ w' = w := by
  have b1 := sHi_range hi lo
  have b2 := sLo_range lo
  have hH : IntKind.u64.wrap (mhi lo 4865540595714422341 + IntKind.u64.wrap (IntKind.u64.wrap (hi * 4865540595714422341) + IntKind.u64.wrap (lo * 2549297995355413924))) = hiSum hi lo := rfl
  have hL := sLo_alt lo
  have hS := sHi_alt hi lo
  have hc := cy_alt lo
  go_enter Try.func12, Try.ntmps12
  go_upto_region 5 with (first | (go_at_call 16; refine (mulB_any _ _ l1 l2 (by decide) (by decide) _).mono ?_; rintro e w' ⟨rfl, rfl⟩))
  by_cases hlt : sLo lo < mlo lo 4865540595714422341
  · rw [if_pos hlt] at hc
    rw [hc] at hS
    go_wp2_with fail
    go_ret3
    exact ⟨rfl, rfl⟩
  · rw [if_neg hlt] at hc
    rw [hc, Int.add_zero] at hS
    go_wp2_with fail
    go_ret3
    exact ⟨rfl, rfl⟩

end Go.Proofs.Qxb6616258a.Pcg
