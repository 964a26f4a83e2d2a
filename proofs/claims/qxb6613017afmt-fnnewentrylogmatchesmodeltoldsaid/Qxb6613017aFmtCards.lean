/-
  DERIVED. GIVEN WITH THE SEED: THE CARDS: each row of Qxb6613017aFmtRows.lean that lists a variable, with what it lists TIED to the program's text (the seventh form; the later family's looks); each row that meets fmt, with fmt's text TOLD by the authors' own Lean function (tested against real Go, not proved from fmt's source: count such statements apart). THE CARD IS WHAT COUNTS. Prove the row's statement (the work); the ties are given (Qxb6613017aFmtTie.lean); close each card by the builder's one call (the guide's Derived/Test/ToyasCard.lean, 'card_holds'). Laid BY PROGRAM, IN A SANDBOX (cutbox-door.mjs). By AI agents, Wed Nov 11 2026. No macro, syntax, notation, axiom, sorry.
-/
import Derived.Test.Qxb6613017aFmtRows
import GoSem.ClaimSeven
namespace Go.Proofs.Qxb6613017aFmt
namespace Rows

/-- THE TOLD CARD OF 'zzlaws_internal_raft_b1.FnNewEntryLogMatchesModel'. -/
def fnNewEntryLogMatchesModelCard : Claim7 := { stood := { row := fnNewEntryLogMatchesModelRow, standIns := [], harness := (true, "e4886dc832b55d318b41265c3ff68372f348d613115eb365b1fca7fa971ebec7"), looks := false }, told := true, goes := false }
def FnNewEntryLogMatchesModelToldSaid : Prop := Claim7.holds Tryf.pinned (.plain (OpenSpec.ofChange fnNewEntryLogMatchesModelSpec)) fnNewEntryLogMatchesModelCard
/-- ITS FALSE NEIGHBOUR. Refute it at one input. -/
def FnNewEntryLogMatchesModelToldWrongFalsely : Prop := Claim7.holds Tryf.pinned (.plain (OpenSpec.ofChange fnNewEntryLogMatchesModelWrong)) fnNewEntryLogMatchesModelCard

/-- THE TOLD CARD OF 'zzlaws_internal_raft_b1.FnNewEntryLogSplitsAtAnyCut'. -/
def fnNewEntryLogSplitsAtAnyCutCard : Claim7 := { stood := { row := fnNewEntryLogSplitsAtAnyCutRow, standIns := [], harness := (true, "e4886dc832b55d318b41265c3ff68372f348d613115eb365b1fca7fa971ebec7"), looks := false }, told := true, goes := false }
def FnNewEntryLogSplitsAtAnyCutToldSaid : Prop := Claim7.holds Tryf.pinned (.plain (OpenSpec.ofChange fnNewEntryLogSplitsAtAnyCutSpec)) fnNewEntryLogSplitsAtAnyCutCard
/-- ITS FALSE NEIGHBOUR. Refute it at one input. -/
def FnNewEntryLogSplitsAtAnyCutToldWrongFalsely : Prop := Claim7.holds Tryf.pinned (.plain (OpenSpec.ofChange fnNewEntryLogSplitsAtAnyCutWrong)) fnNewEntryLogSplitsAtAnyCutCard
end Rows
end Go.Proofs.Qxb6613017aFmt
