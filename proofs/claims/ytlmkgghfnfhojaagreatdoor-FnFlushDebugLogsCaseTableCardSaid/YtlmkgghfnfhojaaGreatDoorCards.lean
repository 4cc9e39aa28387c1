/-
  DERIVED. GIVEN WITH THE SEED: THE CARDS: each row of YtlmkgghfnfhojaaGreatDoorRows.lean that lists a variable, with what it lists TIED to the program's text (the seventh form; the later family's looks); each row that meets fmt, with fmt's text TOLD by the authors' own Lean function (tested against real Go, not proved from fmt's source: count such statements apart). THE CARD IS WHAT COUNTS. Prove the row's statement (the work); the ties are given (YtlmkgghfnfhojaaGreatDoorTie.lean); close each card by the builder's one call (the guide's Derived/Test/ToyasCard.lean, 'card_holds'). Laid BY PROGRAM, IN A SANDBOX (cutbox-door.mjs). By AI agents, Wed Nov 11 2026. No macro, syntax, notation, axiom, sorry.
-/
import Derived.Test.YtlmkgghfnfhojaaGreatDoorRows
import GoSem.ClaimSeven
namespace Go.Proofs.YtlmkgghfnfhojaaGreatDoor
namespace Rows

/-- THE TIED CARD OF 'n011_173.FnFlushDebugLogsCaseTable'. -/
def fnFlushDebugLogsCaseTableCard : Claim7 := { stood := { row := fnFlushDebugLogsCaseTableRow, standIns := [], harness := (true, "78211838ca83cc38e2fa2767f30dc4cf8bff25675b8e9ee99394e5a998da2629"), looks := false }, kinds := [], alts := [], laidByText := true, laidKinds := [.data, .pinned], laidTests := true, laidLooks := .later }
def FnFlushDebugLogsCaseTableCardSaid : Prop := Claim7.holds Tryz.pinned (.plain (OpenSpec.ofChange fnFlushDebugLogsCaseTableSpec)) fnFlushDebugLogsCaseTableCard

/-- THE SECOND FORM's CARD OF 'n011_173.FnFlushDebugLogsCaseTable'. -/
def fnFlushDebugLogsCaseTableUptoCard : Claim7 := { stood := { row := fnFlushDebugLogsCaseTableUptoRow, standIns := [], harness := (true, "78211838ca83cc38e2fa2767f30dc4cf8bff25675b8e9ee99394e5a998da2629"), looks := false }, kinds := [], alts := [], laidByText := true, laidKinds := [.data, .pinned], laidTests := true, laidLooks := .later }
def FnFlushDebugLogsCaseTableUptoCardSaid : Prop := Claim7.holds Tryz.pinned (.plain (OpenSpec.upto fnFlushDebugLogsCaseTableSpec)) fnFlushDebugLogsCaseTableUptoCard
end Rows
end Go.Proofs.YtlmkgghfnfhojaaGreatDoor
