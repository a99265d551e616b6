/-
  No cell of these rows narrows 'for every input' (looked for: loops, veiled, ifaces, maps, wideKeys, modest, calm, conditions, laid).
  DERIVED. THE GIVEN ROWS OF THIS SEAT. 1 by the template 'for every input the law returns true; each argument reads behind the call as it read before'; 0 by the template 'total and deterministic' (their statements: Qxb6617616aTotals.lean).
  GIVEN WITH THE SEED: the statements are not yours to turn. If you find one false, say at which input.
  Laid BY PROGRAM, IN A SANDBOX (cutbox-rows.mjs): the forced cells as the released guide's own fill.sh prints them over the translation b779d4e0af89f26d… (all of the seat's roots in one cut). By AI agents, Wed Nov 11 2026. No macro, syntax, notation, axiom, sorry.
-/
import Derived.Test.Qxb6617616aChecked
import GoSem.Claim
import GoSem.ClaimJoined
import GoSem.ClaimMapViews
import Derived.JoinedTies
import Derived.KernelRfl
namespace Go.Proofs.Qxb6617616a
/- THE CELL 'sum', in the pinned program and in every row, IS THE sha256 OF THE DUMP (.gsa) THAT Qxb6617616aProg.lean LOADS. Nothing in Lean hashes anything: it is a label: what it is worth is what the hold of that sum in a sandbox is worth. -/
noncomputable def Try.pinned : Pinned := { name := "qxb6617616a", sum := "b779d4e0af89f26d7084d690520da32894f33921a9307b60796d6d6933f813b9", checked := Try.checked }
namespace Rows
def none {H : Type} : Left H := { results := [], args := [] }

/-- 'zzlaws_root_b1.FnAddSetsExactlyTheNumbers': WHATEVER THE INPUT: true; the input reads as it did. -/
def fnAddSetsExactlyTheNumbersSpec : ChangeSpec := { name := "fnAddSetsExactlyTheNumbers", fn := fun _ => fun
  | [d1, d2, d3, d4] => { results := [.lit (.bool true)], args := [d1, d2, d3, d4] }
  | _ => none }
def fnAddSetsExactlyTheNumbersRow : OpenClaim := { program := "qxb6617616a", sum := "b779d4e0af89f26d7084d690520da32894f33921a9307b60796d6d6933f813b9", func := "example.com/interleave/interleave/zzlaws_root_b1.FnAddSetsExactlyTheNumbers", spec := "fnAddSetsExactlyTheNumbers", apart := false }
def FnAddSetsExactlyTheNumbersSaid : Prop := fnAddSetsExactlyTheNumbersRow.holds Try.pinned (OpenSpec.ofChange fnAddSetsExactlyTheNumbersSpec)

/-- ITS FALSE NEIGHBOUR: 'it returns false'. Refute it at one input. -/
def fnAddSetsExactlyTheNumbersWrong : ChangeSpec := { name := "fnAddSetsExactlyTheNumbers", fn := fun _ => fun
  | [d1, d2, d3, d4] => { results := [.lit (.bool false)], args := [d1, d2, d3, d4] }
  | _ => none }
def FnAddSetsExactlyTheNumbersWrongFalsely : Prop := fnAddSetsExactlyTheNumbersRow.holds Try.pinned (OpenSpec.ofChange fnAddSetsExactlyTheNumbersWrong)

end Rows
end Go.Proofs.Qxb6617616a
