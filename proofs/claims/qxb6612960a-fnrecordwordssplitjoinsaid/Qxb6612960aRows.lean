/-
  No cell of these rows narrows 'for every input' (looked for: loops, veiled, ifaces, maps, wideKeys, modest, calm, conditions, laid).
  DERIVED. THE GIVEN ROWS OF THIS SEAT. 2 by the template 'for every input the law returns true; each argument reads behind the call as it read before'; 0 by the template 'total and deterministic' (their statements: Qxb6612960aTotals.lean).
  GIVEN WITH THE SEED: the statements are not yours to turn. If you find one false, say at which input.
  Laid BY PROGRAM, IN A SANDBOX (cutbox-rows.mjs): the forced cells as the released guide's own fill.sh prints them over the translation 3ca41c8b7c828c05… (all of the seat's roots in one cut). By AI agents, Wed Nov 11 2026. No macro, syntax, notation, axiom, sorry.
-/
import Derived.Test.Qxb6612960aChecked
import GoSem.Claim
import GoSem.ClaimJoined
import GoSem.ClaimMapViews
import Derived.JoinedTies
import Derived.KernelRfl
namespace Go.Proofs.Qxb6612960a
/- THE CELL 'sum', in the pinned program and in every row, IS THE sha256 OF THE DUMP (.gsa) THAT Qxb6612960aProg.lean LOADS. Nothing in Lean hashes anything: it is a label: what it is worth is what the hold of that sum in a sandbox is worth. -/
noncomputable def Try.pinned : Pinned := { name := "qxb6612960a", sum := "3ca41c8b7c828c0502a0be9db4ab402c96c1a013c688a23672940bc1f20cbbe3", checked := Try.checked }
namespace Rows
def none {H : Type} : Left H := { results := [], args := [] }

/-- 'zzlaws_quorum_b1.FnRecordWordsSplitJoin': WHATEVER THE INPUT: true; the input reads as it did. -/
def fnRecordWordsSplitJoinSpec : ChangeSpec := { name := "fnRecordWordsSplitJoin", fn := fun _ => fun
  | [d1, d2] => { results := [.lit (.bool true)], args := [d1, d2] }
  | _ => none }
def fnRecordWordsSplitJoinRow : OpenClaim := { program := "qxb6612960a", sum := "3ca41c8b7c828c0502a0be9db4ab402c96c1a013c688a23672940bc1f20cbbe3", func := "example.com/quorumweave/quorumweave/zzlaws_quorum_b1.FnRecordWordsSplitJoin", spec := "fnRecordWordsSplitJoin", apart := false }
def FnRecordWordsSplitJoinSaid : Prop := fnRecordWordsSplitJoinRow.holds Try.pinned (OpenSpec.ofChange fnRecordWordsSplitJoinSpec)

/-- ITS FALSE NEIGHBOUR: 'it returns false'. Refute it at one input. -/
def fnRecordWordsSplitJoinWrong : ChangeSpec := { name := "fnRecordWordsSplitJoin", fn := fun _ => fun
  | [d1, d2] => { results := [.lit (.bool false)], args := [d1, d2] }
  | _ => none }
def FnRecordWordsSplitJoinWrongFalsely : Prop := fnRecordWordsSplitJoinRow.holds Try.pinned (OpenSpec.ofChange fnRecordWordsSplitJoinWrong)

/-- 'zzlaws_quorum_b1.FnRecordWordsLongerAndOrdered': WHATEVER THE INPUT: true; the input reads as it did. -/
def fnRecordWordsLongerAndOrderedSpec : ChangeSpec := { name := "fnRecordWordsLongerAndOrdered", fn := fun _ => fun
  | [d1, d2] => { results := [.lit (.bool true)], args := [d1, d2] }
  | _ => none }
def fnRecordWordsLongerAndOrderedRow : OpenClaim := { program := "qxb6612960a", sum := "3ca41c8b7c828c0502a0be9db4ab402c96c1a013c688a23672940bc1f20cbbe3", func := "example.com/quorumweave/quorumweave/zzlaws_quorum_b1.FnRecordWordsLongerAndOrdered", spec := "fnRecordWordsLongerAndOrdered", apart := false }
def FnRecordWordsLongerAndOrderedSaid : Prop := fnRecordWordsLongerAndOrderedRow.holds Try.pinned (OpenSpec.ofChange fnRecordWordsLongerAndOrderedSpec)

/-- ITS FALSE NEIGHBOUR: 'it returns false'. Refute it at one input. -/
def fnRecordWordsLongerAndOrderedWrong : ChangeSpec := { name := "fnRecordWordsLongerAndOrdered", fn := fun _ => fun
  | [d1, d2] => { results := [.lit (.bool false)], args := [d1, d2] }
  | _ => none }
def FnRecordWordsLongerAndOrderedWrongFalsely : Prop := fnRecordWordsLongerAndOrderedRow.holds Try.pinned (OpenSpec.ofChange fnRecordWordsLongerAndOrderedWrong)

end Rows
end Go.Proofs.Qxb6612960a
