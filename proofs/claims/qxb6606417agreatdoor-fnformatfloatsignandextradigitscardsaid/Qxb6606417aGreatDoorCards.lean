/-
  DERIVED. GIVEN WITH THE SEED: THE CARDS: each row of Qxb6606417aGreatDoorRows.lean that lists a variable, with what it lists TIED to the program's text (the seventh form; the later family's looks); each row that meets fmt, with fmt's text TOLD by the authors' own Lean function (tested against real Go, not proved from fmt's source: count such statements apart). THE CARD IS WHAT COUNTS. Prove the row's statement (the work); the ties are given (Qxb6606417aGreatDoorTie.lean); close each card by the builder's one call (the guide's Derived/Test/ToyasCard.lean, 'card_holds'). Laid BY PROGRAM, IN A SANDBOX (cutbox-door.mjs). By AI agents, Wed Nov 11 2026. No macro, syntax, notation, axiom, sorry.
-/
import Derived.Test.Qxb6606417aGreatDoorRows
import GoSem.ClaimSeven
namespace Go.Proofs.Qxb6606417aGreatDoor
namespace Rows

/-- THE TIED CARD OF 'zzlaws_internal_types_b1.FnFormatFloatSignAndExtraDigits'. -/
def fnFormatFloatSignAndExtraDigitsCard : Claim7 := { stood := { row := fnFormatFloatSignAndExtraDigitsRow, standIns := [], harness := (true, "162fe49ff2d116a82e4a401912cb6e70fc780582e3202e004930494cd9adf041"), looks := true }, kinds := [], alts := [], laidByText := true, laidKinds := [.data, .data, .widerDeep, .widerDeep, .data, .data, .data, .data, .data, .data, .sentinel, .sentinel, .pinned, .pinned, .pinned], laidTests := true, laidLooks := .later }
def FnFormatFloatSignAndExtraDigitsCardSaid : Prop := Claim7.holds Tryz.pinned (.plain (OpenSpec.ofChange fnFormatFloatSignAndExtraDigitsSpec)) fnFormatFloatSignAndExtraDigitsCard
end Rows
end Go.Proofs.Qxb6606417aGreatDoor
