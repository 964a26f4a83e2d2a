/-
  No cell of these rows narrows 'for every input' (looked for: loops, veiled, ifaces, maps, wideKeys, modest, calm, conditions, laid).
  DERIVED. THE GIVEN ROWS OF THIS SEAT. 2 by the template 'for every input the law returns true; each argument reads behind the call as it read before'; 0 by the template 'total and deterministic' (their statements: Qxb6613017aFmtTotals.lean).
  GIVEN WITH THE SEED: the statements are not yours to turn. If you find one false, say at which input.
  Laid BY PROGRAM, IN A SANDBOX (cutbox-rows.mjs): the forced cells as the released guide's own fill.sh prints them over the translation 754b08c2ca644101… (all of the seat's roots in one cut). By AI agents, Wed Nov 11 2026. No macro, syntax, notation, axiom, sorry.
-/
import Derived.Test.Qxb6613017aFmtChecked
import GoSem.Claim
import GoSem.ClaimJoined
import GoSem.ClaimMapViews
import Derived.JoinedTies
import Derived.KernelRfl
namespace Go.Proofs.Qxb6613017aFmt
/- THE CELL 'sum', in the pinned program and in every row, IS THE sha256 OF THE DUMP (.gsa) THAT Qxb6613017aFmtProg.lean LOADS. Nothing in Lean hashes anything: it is a label: what it is worth is what the hold of that sum in a sandbox is worth. -/
noncomputable def Tryf.pinned : Pinned := { name := "qxb6613017afmt", sum := "754b08c2ca6441014a251822109e6248348004298274a0717c8e34d3141e0842", checked := Tryf.checked }
namespace Rows
def none {H : Type} : Left H := { results := [], args := [] }

/-- 'zzlaws_internal_raft_b1.FnNewEntryLogMatchesModel': WHATEVER THE INPUT: true; the input reads as it did. -/
def fnNewEntryLogMatchesModelSpec : ChangeSpec := { name := "fnNewEntryLogMatchesModel", fn := fun _ => fun
  | [d1, d2, d3, d4, d5] => { results := [.lit (.bool true)], args := [d1, d2, d3, d4, d5] }
  | _ => none }
def fnNewEntryLogMatchesModelRow : OpenClaim := { program := "qxb6613017afmt", sum := "754b08c2ca6441014a251822109e6248348004298274a0717c8e34d3141e0842", func := "example.com/gunwale/gunwale/zzlaws_internal_raft_b1.FnNewEntryLogMatchesModel", spec := "fnNewEntryLogMatchesModel", stops := ["fmt.errorf"], inPlace := ["fmt.errorf"], apart := false }
/-- NO THEOREM (fmt's text is open here; it may be false): for the released tool's asking of the row's closed facts alone. THE STATEMENT IS 'FnNewEntryLogMatchesModelToldSaid' (Qxb6613017aFmtCards.lean). -/
def FnNewEntryLogMatchesModelFormAsk : Prop := fnNewEntryLogMatchesModelRow.holds Tryf.pinned (OpenSpec.ofChange fnNewEntryLogMatchesModelSpec)

/-- ITS FALSE NEIGHBOUR: 'it returns false'. Refute it at one input. -/
def fnNewEntryLogMatchesModelWrong : ChangeSpec := { name := "fnNewEntryLogMatchesModel", fn := fun _ => fun
  | [d1, d2, d3, d4, d5] => { results := [.lit (.bool false)], args := [d1, d2, d3, d4, d5] }
  | _ => none }
def FnNewEntryLogMatchesModelWrongFormAsk : Prop := fnNewEntryLogMatchesModelRow.holds Tryf.pinned (OpenSpec.ofChange fnNewEntryLogMatchesModelWrong)

/-- 'zzlaws_internal_raft_b1.FnNewEntryLogSplitsAtAnyCut': WHATEVER THE INPUT: true; the input reads as it did. -/
def fnNewEntryLogSplitsAtAnyCutSpec : ChangeSpec := { name := "fnNewEntryLogSplitsAtAnyCut", fn := fun _ => fun
  | [d1, d2, d3, d4] => { results := [.lit (.bool true)], args := [d1, d2, d3, d4] }
  | _ => none }
def fnNewEntryLogSplitsAtAnyCutRow : OpenClaim := { program := "qxb6613017afmt", sum := "754b08c2ca6441014a251822109e6248348004298274a0717c8e34d3141e0842", func := "example.com/gunwale/gunwale/zzlaws_internal_raft_b1.FnNewEntryLogSplitsAtAnyCut", spec := "fnNewEntryLogSplitsAtAnyCut", stops := ["fmt.errorf"], inPlace := ["fmt.errorf"], apart := false }
/-- NO THEOREM (fmt's text is open here; it may be false): for the released tool's asking of the row's closed facts alone. THE STATEMENT IS 'FnNewEntryLogSplitsAtAnyCutToldSaid' (Qxb6613017aFmtCards.lean). -/
def FnNewEntryLogSplitsAtAnyCutFormAsk : Prop := fnNewEntryLogSplitsAtAnyCutRow.holds Tryf.pinned (OpenSpec.ofChange fnNewEntryLogSplitsAtAnyCutSpec)

/-- ITS FALSE NEIGHBOUR: 'it returns false'. Refute it at one input. -/
def fnNewEntryLogSplitsAtAnyCutWrong : ChangeSpec := { name := "fnNewEntryLogSplitsAtAnyCut", fn := fun _ => fun
  | [d1, d2, d3, d4] => { results := [.lit (.bool false)], args := [d1, d2, d3, d4] }
  | _ => none }
def FnNewEntryLogSplitsAtAnyCutWrongFormAsk : Prop := fnNewEntryLogSplitsAtAnyCutRow.holds Tryf.pinned (OpenSpec.ofChange fnNewEntryLogSplitsAtAnyCutWrong)

end Rows
end Go.Proofs.Qxb6613017aFmt
