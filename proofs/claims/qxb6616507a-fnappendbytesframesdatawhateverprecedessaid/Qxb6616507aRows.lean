/-
  No cell of these rows narrows 'for every input' (looked for: loops, veiled, ifaces, maps, wideKeys, modest, calm, conditions, laid).
  DERIVED. THE GIVEN ROWS OF THIS SEAT. 1 by the template 'for every input the law returns true; each argument reads behind the call as it read before'; 0 by the template 'total and deterministic' (their statements: Qxb6616507aTotals.lean).
  GIVEN WITH THE SEED: the statements are not yours to turn. If you find one false, say at which input.
  Laid BY PROGRAM, IN A SANDBOX (cutbox-rows.mjs): the forced cells as the released guide's own fill.sh prints them over the translation 287e5a39f2667de3… (all of the seat's roots in one cut). By AI agents, Wed Nov 11 2026. No macro, syntax, notation, axiom, sorry.
-/
import Derived.Test.Qxb6616507aChecked
import GoSem.Claim
import GoSem.ClaimJoined
import GoSem.ClaimMapViews
import Derived.JoinedTies
import Derived.KernelRfl
namespace Go.Proofs.Qxb6616507a
/- THE CELL 'sum', in the pinned program and in every row, IS THE sha256 OF THE DUMP (.gsa) THAT Qxb6616507aProg.lean LOADS. Nothing in Lean hashes anything: it is a label: what it is worth is what the hold of that sum in a sandbox is worth. -/
noncomputable def Try.pinned : Pinned := { name := "qxb6616507a", sum := "287e5a39f2667de38a39c7cf4d45b28d984147e7e1e8a1b0b75f6f0eb1a31a0b", checked := Try.checked }
namespace Rows
def none {H : Type} : Left H := { results := [], args := [] }

/-- 'zzlaws_wire_b1.FnAppendBytesFramesDataWhateverPrecedes': WHATEVER THE INPUT: true; the input reads as it did. -/
def fnAppendBytesFramesDataWhateverPrecedesSpec : ChangeSpec := { name := "fnAppendBytesFramesDataWhateverPrecedes", fn := fun _ => fun
  | [d1, d2] => { results := [.lit (.bool true)], args := [d1, d2] }
  | _ => none }
def fnAppendBytesFramesDataWhateverPrecedesRow : OpenClaim := { program := "qxb6616507a", sum := "287e5a39f2667de38a39c7cf4d45b28d984147e7e1e8a1b0b75f6f0eb1a31a0b", func := "example.com/hearsay/hearsay/zzlaws_wire_b1.FnAppendBytesFramesDataWhateverPrecedes", spec := "fnAppendBytesFramesDataWhateverPrecedes", named := ["encoding/binary.LittleEndian"], apart := false }
def FnAppendBytesFramesDataWhateverPrecedesSaid : Prop := fnAppendBytesFramesDataWhateverPrecedesRow.holds Try.pinned (OpenSpec.ofChange fnAppendBytesFramesDataWhateverPrecedesSpec)

/-- ITS FALSE NEIGHBOUR: 'it returns false'. Refute it at one input. -/
def fnAppendBytesFramesDataWhateverPrecedesWrong : ChangeSpec := { name := "fnAppendBytesFramesDataWhateverPrecedes", fn := fun _ => fun
  | [d1, d2] => { results := [.lit (.bool false)], args := [d1, d2] }
  | _ => none }
def FnAppendBytesFramesDataWhateverPrecedesWrongFalsely : Prop := fnAppendBytesFramesDataWhateverPrecedesRow.holds Try.pinned (OpenSpec.ofChange fnAppendBytesFramesDataWhateverPrecedesWrong)

end Rows
end Go.Proofs.Qxb6616507a
