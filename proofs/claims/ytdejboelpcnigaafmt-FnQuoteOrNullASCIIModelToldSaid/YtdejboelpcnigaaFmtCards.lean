/-
  DERIVED. GIVEN WITH THE SEED: THE CARDS: each row of YtdejboelpcnigaaFmtRows.lean that lists a variable, with what it lists TIED to the program's text (the seventh form; the later family's looks); each row that meets fmt, with fmt's text TOLD by the authors' own Lean function (tested against real Go, not proved from fmt's source: count such statements apart). THE CARD IS WHAT COUNTS. Prove the row's statement (the work); the ties are given (YtdejboelpcnigaaFmtTie.lean); close each card by the builder's one call (the guide's Derived/Test/ToyasCard.lean, 'card_holds'). Laid BY PROGRAM, IN A SANDBOX (cutbox-door.mjs). By AI agents, Wed Nov 11 2026. No macro, syntax, notation, axiom, sorry.
-/
import Derived.Test.YtdejboelpcnigaaFmtRows
import GoSem.ClaimSeven
namespace Go.Proofs.YtdejboelpcnigaaFmt
namespace Rows

/-- THE TOLD CARD OF 'n011_255.FnQuoteOrNullASCIIModel'. -/
def fnQuoteOrNullASCIIModelCard : Claim7 := { stood := { row := fnQuoteOrNullASCIIModelRow, standIns := [], harness := (true, "a545efa90ad808457e0a1a99f32bafdf7ef777b92f14b693807f8b20da0b5914"), looks := false }, told := true, goes := false }
def FnQuoteOrNullASCIIModelToldSaid : Prop := Claim7.holds Tryf.pinned (.plain (OpenSpec.ofChange fnQuoteOrNullASCIIModelSpec)) fnQuoteOrNullASCIIModelCard
/-- ITS FALSE NEIGHBOUR. Refute it at one input. -/
def FnQuoteOrNullASCIIModelToldWrongFalsely : Prop := Claim7.holds Tryf.pinned (.plain (OpenSpec.ofChange fnQuoteOrNullASCIIModelWrong)) fnQuoteOrNullASCIIModelCard
end Rows
end Go.Proofs.YtdejboelpcnigaaFmt
