/-
  No cell of these rows narrows 'for every input' (looked for: loops, veiled, ifaces, maps, wideKeys, modest, calm, conditions, laid).
  DERIVED. THE GIVEN ROWS OF THIS SEAT. 2 by the template 'for every input the law returns true; each argument reads behind the call as it read before'; 0 by the template 'total and deterministic' (their statements: Qxb6617665aTotals.lean).
  GIVEN WITH THE SEED: the statements are not yours to turn. If you find one false, say at which input.
  Laid BY PROGRAM, IN A SANDBOX (cutbox-rows.mjs): the forced cells as the released guide's own fill.sh prints them over the translation a713ae4eecdb0db3… (all of the seat's roots in one cut). By AI agents, Wed Nov 11 2026. No macro, syntax, notation, axiom, sorry.
-/
import Derived.Test.Qxb6617665aChecked
import GoSem.Claim
import GoSem.ClaimJoined
import GoSem.ClaimMapViews
import Derived.JoinedTies
import Derived.KernelRfl
namespace Go.Proofs.Qxb6617665a
/- THE CELL 'sum', in the pinned program and in every row, IS THE sha256 OF THE DUMP (.gsa) THAT Qxb6617665aProg.lean LOADS. Nothing in Lean hashes anything: it is a label: what it is worth is what the hold of that sum in a sandbox is worth. -/
noncomputable def Try.pinned : Pinned := { name := "qxb6617665a", sum := "a713ae4eecdb0db38672c144641961f7e0b1b6399f7455a3ba8f7c636e6f5b80", checked := Try.checked }
namespace Rows
def none {H : Type} : Left H := { results := [], args := [] }

/-- 'zzlaws_root_b1.FnFieldInsertOneElement': WHATEVER THE INPUT: true; the input reads as it did. -/
def fnFieldInsertOneElementSpec : ChangeSpec := { name := "fnFieldInsertOneElement", fn := fun _ => fun
  | [d1, d2, d3, d4, d5, d6, d7, d8, d9, d10, d11, d12] => { results := [.lit (.bool true)], args := [d1, d2, d3, d4, d5, d6, d7, d8, d9, d10, d11, d12] }
  | _ => none }
def fnFieldInsertOneElementRow : OpenClaim := { program := "qxb6617665a", sum := "a713ae4eecdb0db38672c144641961f7e0b1b6399f7455a3ba8f7c636e6f5b80", func := "example.com/ninetyfour/ninetyfour/zzlaws_root_b1.FnFieldInsertOneElement", spec := "fnFieldInsertOneElement", apart := false }
def FnFieldInsertOneElementSaid : Prop := fnFieldInsertOneElementRow.holds Try.pinned (OpenSpec.ofChange fnFieldInsertOneElementSpec)

/-- ITS FALSE NEIGHBOUR: 'it returns false'. Refute it at one input. -/
def fnFieldInsertOneElementWrong : ChangeSpec := { name := "fnFieldInsertOneElement", fn := fun _ => fun
  | [d1, d2, d3, d4, d5, d6, d7, d8, d9, d10, d11, d12] => { results := [.lit (.bool false)], args := [d1, d2, d3, d4, d5, d6, d7, d8, d9, d10, d11, d12] }
  | _ => none }
def FnFieldInsertOneElementWrongFalsely : Prop := fnFieldInsertOneElementRow.holds Try.pinned (OpenSpec.ofChange fnFieldInsertOneElementWrong)

/-- 'zzlaws_root_b1.FnFieldSplitAtAnyCut': WHATEVER THE INPUT: true; the input reads as it did. -/
def fnFieldSplitAtAnyCutSpec : ChangeSpec := { name := "fnFieldSplitAtAnyCut", fn := fun _ => fun
  | [d1, d2, d3, d4, d5, d6, d7] => { results := [.lit (.bool true)], args := [d1, d2, d3, d4, d5, d6, d7] }
  | _ => none }
def fnFieldSplitAtAnyCutRow : OpenClaim := { program := "qxb6617665a", sum := "a713ae4eecdb0db38672c144641961f7e0b1b6399f7455a3ba8f7c636e6f5b80", func := "example.com/ninetyfour/ninetyfour/zzlaws_root_b1.FnFieldSplitAtAnyCut", spec := "fnFieldSplitAtAnyCut", apart := false }
def FnFieldSplitAtAnyCutSaid : Prop := fnFieldSplitAtAnyCutRow.holds Try.pinned (OpenSpec.ofChange fnFieldSplitAtAnyCutSpec)

/-- ITS FALSE NEIGHBOUR: 'it returns false'. Refute it at one input. -/
def fnFieldSplitAtAnyCutWrong : ChangeSpec := { name := "fnFieldSplitAtAnyCut", fn := fun _ => fun
  | [d1, d2, d3, d4, d5, d6, d7] => { results := [.lit (.bool false)], args := [d1, d2, d3, d4, d5, d6, d7] }
  | _ => none }
def FnFieldSplitAtAnyCutWrongFalsely : Prop := fnFieldSplitAtAnyCutRow.holds Try.pinned (OpenSpec.ofChange fnFieldSplitAtAnyCutWrong)

end Rows
end Go.Proofs.Qxb6617665a
