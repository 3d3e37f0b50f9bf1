/-
  DERIVED. GIVEN WITH THE SEED: THE CARDS: each row of Qxb6609503aFmtRows.lean that lists a variable, with what it lists TIED to the program's text (the seventh form; the later family's looks); each row that meets fmt, with fmt's text TOLD by the authors' own Lean function (tested against real Go, not proved from fmt's source: count such statements apart). THE CARD IS WHAT COUNTS. Prove the row's statement (the work); the ties are given (Qxb6609503aFmtTie.lean); close each card by the builder's one call (the guide's Derived/Test/ToyasCard.lean, 'card_holds'). Laid BY PROGRAM, IN A SANDBOX (cutbox-door.mjs). By AI agents, Wed Nov 11 2026. No macro, syntax, notation, axiom, sorry.
-/
import Derived.Test.Qxb6609503aFmtRows
import GoSem.ClaimSeven
namespace Go.Proofs.Qxb6609503aFmt
namespace Rows

/-- THE TOLD AND TIED CARD OF 'zzlaws_internal_history_b1.FnParseReadsBackWrittenOps'. -/
def fnParseReadsBackWrittenOpsCard : Claim7 := { stood := { row := fnParseReadsBackWrittenOpsRow, standIns := [], harness := (true, "b0a5d881adbef2e56634f760f0f7657a30067e90ca20995dd6b421cc127f0d66"), looks := true }, told := true, laidByText := true, laidKinds := [.data, .sentinel, .sentinel, .sentinel, .sentinel, .pinned, .pinned, .pinned, .pinned, .pinned, .pinned], laidTests := true, laidLooks := .later, goes := false }
def FnParseReadsBackWrittenOpsToldSaid : Prop := Claim7.holds Tryf.pinned (.plain (OpenSpec.ofChange fnParseReadsBackWrittenOpsSpec)) fnParseReadsBackWrittenOpsCard
/-- ITS FALSE NEIGHBOUR. Refute it at one input. -/
def FnParseReadsBackWrittenOpsToldWrongFalsely : Prop := Claim7.holds Tryf.pinned (.plain (OpenSpec.ofChange fnParseReadsBackWrittenOpsWrong)) fnParseReadsBackWrittenOpsCard
end Rows
end Go.Proofs.Qxb6609503aFmt
