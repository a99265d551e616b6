/-
  No cell of these rows narrows 'for every input' (looked for: loops, veiled, ifaces, maps, wideKeys, modest, calm, conditions, laid).
  DERIVED. THE GIVEN ROWS OF THIS SEAT. 2 by the template 'for every input the law returns true; each argument reads behind the call as it read before'; 0 by the template 'total and deterministic' (their statements: Qxb6616258aTotals.lean).
  GIVEN WITH THE SEED: the statements are not yours to turn. If you find one false, say at which input.
  Laid BY PROGRAM, IN A SANDBOX (cutbox-rows.mjs): the forced cells as the released guide's own fill.sh prints them over the translation 3576c5b6ede6fd31… (all of the seat's roots in one cut). By AI agents, Wed Nov 11 2026. No macro, syntax, notation, axiom, sorry.
-/
import Derived.Test.Qxb6616258aChecked
import GoSem.Claim
import GoSem.ClaimJoined
import GoSem.ClaimMapViews
import Derived.JoinedTies
import Derived.KernelRfl
namespace Go.Proofs.Qxb6616258a
/- THE CELL 'sum', in the pinned program and in every row, IS THE sha256 OF THE DUMP (.gsa) THAT Qxb6616258aProg.lean LOADS. Nothing in Lean hashes anything: it is a label: what it is worth is what the hold of that sum in a sandbox is worth. -/
noncomputable def Try.pinned : Pinned := { name := "qxb6616258a", sum := "3576c5b6ede6fd31e3b41eb782870cfae4fd9bc45bfd15f7e3a223600c45164c", checked := Try.checked }
namespace Rows
def none {H : Type} : Left H := { results := [], args := [] }

/-- 'zzlaws_internal_sim_b1.FnRngReadSplitMatchesPCG': WHATEVER THE INPUT: true; the input reads as it did. -/
def fnRngReadSplitMatchesPCGSpec : ChangeSpec := { name := "fnRngReadSplitMatchesPCG", fn := fun _ => fun
  | [d1, d2, d3, d4] => { results := [.lit (.bool true)], args := [d1, d2, d3, d4] }
  | _ => none }
def fnRngReadSplitMatchesPCGRow : OpenClaim := { program := "qxb6616258a", sum := "3576c5b6ede6fd31e3b41eb782870cfae4fd9bc45bfd15f7e3a223600c45164c", func := "example.com/quorumring/quorumring/zzlaws_internal_sim_b1.FnRngReadSplitMatchesPCG", spec := "fnRngReadSplitMatchesPCG", unfollowed := true, recurses := true, named := ["encoding/binary.LittleEndian"], apart := false }
def FnRngReadSplitMatchesPCGSaid : Prop := fnRngReadSplitMatchesPCGRow.holds Try.pinned (OpenSpec.ofChange fnRngReadSplitMatchesPCGSpec)

/-- ITS FALSE NEIGHBOUR: 'it returns false'. Refute it at one input. -/
def fnRngReadSplitMatchesPCGWrong : ChangeSpec := { name := "fnRngReadSplitMatchesPCG", fn := fun _ => fun
  | [d1, d2, d3, d4] => { results := [.lit (.bool false)], args := [d1, d2, d3, d4] }
  | _ => none }
def FnRngReadSplitMatchesPCGWrongFalsely : Prop := fnRngReadSplitMatchesPCGRow.holds Try.pinned (OpenSpec.ofChange fnRngReadSplitMatchesPCGWrong)

/-- 'zzlaws_internal_sim_b1.FnRngReadDropsPartialWord': WHATEVER THE INPUT: true; the input reads as it did. -/
def fnRngReadDropsPartialWordSpec : ChangeSpec := { name := "fnRngReadDropsPartialWord", fn := fun _ => fun
  | [d1, d2, d3, d4] => { results := [.lit (.bool true)], args := [d1, d2, d3, d4] }
  | _ => none }
def fnRngReadDropsPartialWordRow : OpenClaim := { program := "qxb6616258a", sum := "3576c5b6ede6fd31e3b41eb782870cfae4fd9bc45bfd15f7e3a223600c45164c", func := "example.com/quorumring/quorumring/zzlaws_internal_sim_b1.FnRngReadDropsPartialWord", spec := "fnRngReadDropsPartialWord", unfollowed := true, recurses := true, named := ["encoding/binary.LittleEndian"], apart := false }
def FnRngReadDropsPartialWordSaid : Prop := fnRngReadDropsPartialWordRow.holds Try.pinned (OpenSpec.ofChange fnRngReadDropsPartialWordSpec)

/-- ITS FALSE NEIGHBOUR: 'it returns false'. Refute it at one input. -/
def fnRngReadDropsPartialWordWrong : ChangeSpec := { name := "fnRngReadDropsPartialWord", fn := fun _ => fun
  | [d1, d2, d3, d4] => { results := [.lit (.bool false)], args := [d1, d2, d3, d4] }
  | _ => none }
def FnRngReadDropsPartialWordWrongFalsely : Prop := fnRngReadDropsPartialWordRow.holds Try.pinned (OpenSpec.ofChange fnRngReadDropsPartialWordWrong)

end Rows
end Go.Proofs.Qxb6616258a
