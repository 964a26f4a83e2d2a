/-
  No cell of these rows narrows 'for every input' (looked for: loops, veiled, ifaces, maps, wideKeys, modest, calm, conditions, laid).
  DERIVED. THE GIVEN ROWS OF THIS SEAT. 1 by the template 'for every input the law returns true; each argument reads behind the call as it read before'; 0 by the template 'total and deterministic' (their statements: Qxb6613002aTotals.lean).
  GIVEN WITH THE SEED: the statements are not yours to turn. If you find one false, say at which input.
  Laid BY PROGRAM, IN A SANDBOX (cutbox-rows.mjs): the forced cells as the released guide's own fill.sh prints them over the translation 1afe5265d8032340… (all of the seat's roots in one cut). By AI agents, Wed Nov 11 2026. No macro, syntax, notation, axiom, sorry.
-/
import Derived.Test.Qxb6613002aChecked
import GoSem.Claim
import GoSem.ClaimJoined
import GoSem.ClaimMapViews
import Derived.JoinedTies
import Derived.KernelRfl
namespace Go.Proofs.Qxb6613002a
/- THE CELL 'sum', in the pinned program and in every row, IS THE sha256 OF THE DUMP (.gsa) THAT Qxb6613002aProg.lean LOADS. Nothing in Lean hashes anything: it is a label: what it is worth is what the hold of that sum in a sandbox is worth. -/
noncomputable def Try.pinned : Pinned := { name := "qxb6613002a", sum := "1afe5265d80323402a29815addc1ed7a6b4ac2621cb5f41bd35fe46c5bc74a59", checked := Try.checked }
namespace Rows
def none {H : Type} : Left H := { results := [], args := [] }

/-- 'zzlaws_xpath_b1.FnPopThenPushIsPush': WHATEVER THE INPUT: true; the input reads as it did. -/
def fnPopThenPushIsPushSpec : ChangeSpec := { name := "fnPopThenPushIsPush", fn := fun _ => fun
  | [d1, d2, d3, d4, d5, d6, d7] => { results := [.lit (.bool true)], args := [d1, d2, d3, d4, d5, d6, d7] }
  | _ => none }
def fnPopThenPushIsPushRow : OpenClaim := { program := "qxb6613002a", sum := "1afe5265d80323402a29815addc1ed7a6b4ac2621cb5f41bd35fe46c5bc74a59", func := "example.com/keelson/keelson/zzlaws_xpath_b1.FnPopThenPushIsPush", spec := "fnPopThenPushIsPush", apart := false }
def FnPopThenPushIsPushSaid : Prop := fnPopThenPushIsPushRow.holds Try.pinned (OpenSpec.ofChange fnPopThenPushIsPushSpec)

/-- ITS FALSE NEIGHBOUR: 'it returns false'. Refute it at one input. -/
def fnPopThenPushIsPushWrong : ChangeSpec := { name := "fnPopThenPushIsPush", fn := fun _ => fun
  | [d1, d2, d3, d4, d5, d6, d7] => { results := [.lit (.bool false)], args := [d1, d2, d3, d4, d5, d6, d7] }
  | _ => none }
def FnPopThenPushIsPushWrongFalsely : Prop := fnPopThenPushIsPushRow.holds Try.pinned (OpenSpec.ofChange fnPopThenPushIsPushWrong)

end Rows
end Go.Proofs.Qxb6613002a
