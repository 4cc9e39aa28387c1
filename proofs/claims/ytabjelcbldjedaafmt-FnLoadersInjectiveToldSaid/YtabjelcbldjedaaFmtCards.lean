/-
  DERIVED. GIVEN WITH THE SEED: THE CARDS: each row of YtabjelcbldjedaaFmtRows.lean that lists a variable, with what it lists TIED to the program's text (the seventh form; the later family's looks); each row that meets fmt, with fmt's text TOLD by the authors' own Lean function (tested against real Go, not proved from fmt's source: count such statements apart). THE CARD IS WHAT COUNTS. Prove the row's statement (the work); the ties are given (YtabjelcbldjedaaFmtTie.lean); close each card by the builder's one call (the guide's Derived/Test/ToyasCard.lean, 'card_holds'). Laid BY PROGRAM, IN A SANDBOX (cutbox-door.mjs). By AI agents, Wed Nov 11 2026. No macro, syntax, notation, axiom, sorry.
-/
import Derived.Test.YtabjelcbldjedaaFmtRows
import GoSem.ClaimSeven
namespace Go.Proofs.YtabjelcbldjedaaFmt
namespace Rows

/-- THE TOLD AND TIED CARD OF 'n011_33.FnLoadersInjective'. -/
def fnLoadersInjectiveCard : Claim7 := { stood := { row := fnLoadersInjectiveRow, standIns := [], harness := (true, "8c78e391c42d24c2e13983305742cbfb6eb8a003c486f36f8f5eeb2654136c58"), looks := false }, told := true, laidByText := true, laidKinds := [.data, .pinned], laidTests := true, laidLooks := .later, goes := false }
def FnLoadersInjectiveToldSaid : Prop := Claim7.holds Tryf.pinned (.plain (OpenSpec.ofChange fnLoadersInjectiveSpec)) fnLoadersInjectiveCard
/-- ITS FALSE NEIGHBOUR. Refute it at one input. -/
def FnLoadersInjectiveToldWrongFalsely : Prop := Claim7.holds Tryf.pinned (.plain (OpenSpec.ofChange fnLoadersInjectiveWrong)) fnLoadersInjectiveCard
end Rows
end Go.Proofs.YtabjelcbldjedaaFmt
