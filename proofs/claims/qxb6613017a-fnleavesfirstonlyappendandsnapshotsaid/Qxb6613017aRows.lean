/-
  No cell of these rows narrows 'for every input' (looked for: loops, veiled, ifaces, maps, wideKeys, modest, calm, conditions, laid).
  DERIVED. THE GIVEN ROWS OF THIS SEAT. 1 by the template 'for every input the law returns true; each argument reads behind the call as it read before'; 0 by the template 'total and deterministic' (their statements: Qxb6613017aTotals.lean).
  GIVEN WITH THE SEED: the statements are not yours to turn. If you find one false, say at which input.
  Laid BY PROGRAM, IN A SANDBOX (cutbox-rows.mjs): the forced cells as the released guide's own fill.sh prints them over the translation 5f141e2884652a5b… (all of the seat's roots in one cut). By AI agents, Wed Nov 11 2026. No macro, syntax, notation, axiom, sorry.
-/
import Derived.Test.Qxb6613017aChecked
import GoSem.Claim
import GoSem.ClaimJoined
import GoSem.ClaimMapViews
import Derived.JoinedTies
import Derived.KernelRfl
namespace Go.Proofs.Qxb6613017a
/- THE CELL 'sum', in the pinned program and in every row, IS THE sha256 OF THE DUMP (.gsa) THAT Qxb6613017aProg.lean LOADS. Nothing in Lean hashes anything: it is a label: what it is worth is what the hold of that sum in a sandbox is worth. -/
noncomputable def Try.pinned : Pinned := { name := "qxb6613017a", sum := "5f141e2884652a5bd53cc5ca35b2dced716b7cd99ddfb7e2778e4525c740e929", checked := Try.checked }
namespace Rows
def none {H : Type} : Left H := { results := [], args := [] }

/-- 'zzlaws_internal_raft_b1.FnLeavesFirstOnlyAppendAndSnapshot': WHATEVER THE INPUT: true; the input reads as it did. -/
def fnLeavesFirstOnlyAppendAndSnapshotSpec : ChangeSpec := { name := "fnLeavesFirstOnlyAppendAndSnapshot", fn := fun _ => fun
  | [d] => { results := [.lit (.bool true)], args := [d] }
  | _ => none }
def fnLeavesFirstOnlyAppendAndSnapshotRow : OpenClaim := { program := "qxb6613017a", sum := "5f141e2884652a5bd53cc5ca35b2dced716b7cd99ddfb7e2778e4525c740e929", func := "example.com/gunwale/gunwale/zzlaws_internal_raft_b1.FnLeavesFirstOnlyAppendAndSnapshot", spec := "fnLeavesFirstOnlyAppendAndSnapshot", apart := false }
def FnLeavesFirstOnlyAppendAndSnapshotSaid : Prop := fnLeavesFirstOnlyAppendAndSnapshotRow.holds Try.pinned (OpenSpec.ofChange fnLeavesFirstOnlyAppendAndSnapshotSpec)

/-- ITS FALSE NEIGHBOUR: 'it returns false'. Refute it at one input. -/
def fnLeavesFirstOnlyAppendAndSnapshotWrong : ChangeSpec := { name := "fnLeavesFirstOnlyAppendAndSnapshot", fn := fun _ => fun
  | [d] => { results := [.lit (.bool false)], args := [d] }
  | _ => none }
def FnLeavesFirstOnlyAppendAndSnapshotWrongFalsely : Prop := fnLeavesFirstOnlyAppendAndSnapshotRow.holds Try.pinned (OpenSpec.ofChange fnLeavesFirstOnlyAppendAndSnapshotWrong)

end Rows
end Go.Proofs.Qxb6613017a
