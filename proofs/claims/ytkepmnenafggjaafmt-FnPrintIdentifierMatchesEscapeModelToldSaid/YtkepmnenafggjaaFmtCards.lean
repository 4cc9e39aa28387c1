/-
  DERIVED. GIVEN WITH THE SEED: THE CARDS: each row of YtkepmnenafggjaaFmtRows.lean that lists a variable, with what it lists TIED to the program's text (the seventh form; the later family's looks); each row that meets fmt, with fmt's text TOLD by the authors' own Lean function (tested against real Go, not proved from fmt's source: count such statements apart). THE CARD IS WHAT COUNTS. Prove the row's statement (the work); the ties are given (YtkepmnenafggjaaFmtTie.lean); close each card by the builder's one call (the guide's Derived/Test/ToyasCard.lean, 'card_holds'). Laid BY PROGRAM, IN A SANDBOX (cutbox-door.mjs). By AI agents, Wed Nov 11 2026. No macro, syntax, notation, axiom, sorry.
-/
import Derived.Test.YtkepmnenafggjaaFmtRows
import GoSem.ClaimSeven
namespace Go.Proofs.YtkepmnenafggjaaFmt
namespace Rows

/-- THE TOLD CARD OF 'n011_208.FnPrintIdentifierMatchesEscapeModel'. -/
def fnPrintIdentifierMatchesEscapeModelCard : Claim7 := { stood := { row := fnPrintIdentifierMatchesEscapeModelRow, standIns := [], harness := (true, "ff14cbac5a83feef92f50686810f62b4e292b4e9ded80a770bd580bac8f4f15c"), looks := false }, told := true, goes := false }
def FnPrintIdentifierMatchesEscapeModelToldSaid : Prop := Claim7.holds Tryf.pinned (.plain (OpenSpec.ofChange fnPrintIdentifierMatchesEscapeModelSpec)) fnPrintIdentifierMatchesEscapeModelCard
/-- ITS FALSE NEIGHBOUR. Refute it at one input. -/
def FnPrintIdentifierMatchesEscapeModelToldWrongFalsely : Prop := Claim7.holds Tryf.pinned (.plain (OpenSpec.ofChange fnPrintIdentifierMatchesEscapeModelWrong)) fnPrintIdentifierMatchesEscapeModelCard
end Rows
end Go.Proofs.YtkepmnenafggjaaFmt
