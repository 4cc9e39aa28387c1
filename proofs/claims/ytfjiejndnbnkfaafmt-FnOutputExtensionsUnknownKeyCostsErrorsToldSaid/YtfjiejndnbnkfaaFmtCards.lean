/-
  DERIVED. GIVEN WITH THE SEED: THE CARDS: each row of YtfjiejndnbnkfaaFmtRows.lean that lists a variable, with what it lists TIED to the program's text (the seventh form; the later family's looks); each row that meets fmt, with fmt's text TOLD by the authors' own Lean function (tested against real Go, not proved from fmt's source: count such statements apart). THE CARD IS WHAT COUNTS. Prove the row's statement (the work); the ties are given (YtfjiejndnbnkfaaFmtTie.lean); close each card by the builder's one call (the guide's Derived/Test/ToyasCard.lean, 'card_holds'). Laid BY PROGRAM, IN A SANDBOX (cutbox-door.mjs). By AI agents, Wed Nov 11 2026. No macro, syntax, notation, axiom, sorry.
-/
import Derived.Test.YtfjiejndnbnkfaaFmtRows
import GoSem.ClaimSeven
namespace Go.Proofs.YtfjiejndnbnkfaaFmt
namespace Rows

/-- THE TOLD AND TIED CARD OF 'n011_66.FnOutputExtensionsUnknownKeyCostsErrors'. -/
def fnOutputExtensionsUnknownKeyCostsErrorsCard : Claim7 := { stood := { row := fnOutputExtensionsUnknownKeyCostsErrorsRow, standIns := [], harness := (true, "37e7f8d499fa61dcbaaa0f1ffabc6445e59000daf99fe5eaf771b560b686e645"), looks := false }, told := true, laidByText := true, laidKinds := [.data, .pinned], laidTests := true, laidLooks := .later, goes := false }
def FnOutputExtensionsUnknownKeyCostsErrorsToldSaid : Prop := Claim7.holds Tryf.pinned (.plain (OpenSpec.ofChange fnOutputExtensionsUnknownKeyCostsErrorsSpec)) fnOutputExtensionsUnknownKeyCostsErrorsCard
/-- ITS FALSE NEIGHBOUR. Refute it at one input. -/
def FnOutputExtensionsUnknownKeyCostsErrorsToldWrongFalsely : Prop := Claim7.holds Tryf.pinned (.plain (OpenSpec.ofChange fnOutputExtensionsUnknownKeyCostsErrorsWrong)) fnOutputExtensionsUnknownKeyCostsErrorsCard
end Rows
end Go.Proofs.YtfjiejndnbnkfaaFmt
