/-
  DERIVED. GIVEN WITH THE SEED: THE CARDS: each row of YtcfhlgimbipgcaaFmtRows.lean that lists a variable, with what it lists TIED to the program's text (the seventh form; the later family's looks); each row that meets fmt, with fmt's text TOLD by the authors' own Lean function (tested against real Go, not proved from fmt's source: count such statements apart). THE CARD IS WHAT COUNTS. Prove the row's statement (the work); the ties are given (YtcfhlgimbipgcaaFmtTie.lean); close each card by the builder's one call (the guide's Derived/Test/ToyasCard.lean, 'card_holds'). Laid BY PROGRAM, IN A SANDBOX (cutbox-door.mjs). By AI agents, Wed Nov 11 2026. No macro, syntax, notation, axiom, sorry.
-/
import Derived.Test.YtcfhlgimbipgcaaFmtRows
import GoSem.ClaimSeven
namespace Go.Proofs.YtcfhlgimbipgcaaFmt
namespace Rows

/-- THE TOLD CARD OF 'n011_284.FnIsExternalEntryPointNeverCatchAllAlways'. -/
def fnIsExternalEntryPointNeverCatchAllAlwaysCard : Claim7 := { stood := { row := fnIsExternalEntryPointNeverCatchAllAlwaysRow, standIns := [], harness := (true, "b760fd7f8e7f2da48807b8d9bb2878d76b4f0e0a0ec1e8a3cc15d5000b56ac9b"), looks := false }, told := true, goes := false }
def FnIsExternalEntryPointNeverCatchAllAlwaysToldSaid : Prop := Claim7.holds Tryf.pinned (.plain (OpenSpec.ofChange fnIsExternalEntryPointNeverCatchAllAlwaysSpec)) fnIsExternalEntryPointNeverCatchAllAlwaysCard
/-- ITS FALSE NEIGHBOUR. Refute it at one input. -/
def FnIsExternalEntryPointNeverCatchAllAlwaysToldWrongFalsely : Prop := Claim7.holds Tryf.pinned (.plain (OpenSpec.ofChange fnIsExternalEntryPointNeverCatchAllAlwaysWrong)) fnIsExternalEntryPointNeverCatchAllAlwaysCard
end Rows
end Go.Proofs.YtcfhlgimbipgcaaFmt
