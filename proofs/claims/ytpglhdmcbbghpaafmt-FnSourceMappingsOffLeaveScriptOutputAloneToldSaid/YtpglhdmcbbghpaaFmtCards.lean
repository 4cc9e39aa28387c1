/-
  DERIVED. GIVEN WITH THE SEED: THE CARDS: each row of YtpglhdmcbbghpaaFmtRows.lean that lists a variable, with what it lists TIED to the program's text (the seventh form; the later family's looks); each row that meets fmt, with fmt's text TOLD by the authors' own Lean function (tested against real Go, not proved from fmt's source: count such statements apart). THE CARD IS WHAT COUNTS. Prove the row's statement (the work); the ties are given (YtpglhdmcbbghpaaFmtTie.lean); close each card by the builder's one call (the guide's Derived/Test/ToyasCard.lean, 'card_holds'). Laid BY PROGRAM, IN A SANDBOX (cutbox-door.mjs). By AI agents, Wed Nov 11 2026. No macro, syntax, notation, axiom, sorry.
-/
import Derived.Test.YtpglhdmcbbghpaaFmtRows
import GoSem.ClaimSeven
namespace Go.Proofs.YtpglhdmcbbghpaaFmt
namespace Rows

/-- THE TOLD AND TIED CARD OF 'n011_144.FnSourceMappingsOffLeaveScriptOutputAlone'. -/
def fnSourceMappingsOffLeaveScriptOutputAloneCard : Claim7 := { stood := { row := fnSourceMappingsOffLeaveScriptOutputAloneRow, standIns := [], harness := (true, "674f77461025dc91e7044ad3177476d2b6c0637139b780f2a4b34df4f6b0d100"), looks := false }, told := true, laidByText := true, laidKinds := [.data, .widerDeep], laidTests := true, laidLooks := .later, goes := false }
def FnSourceMappingsOffLeaveScriptOutputAloneToldSaid : Prop := Claim7.holds Tryf.pinned (.plain (OpenSpec.ofChange fnSourceMappingsOffLeaveScriptOutputAloneSpec)) fnSourceMappingsOffLeaveScriptOutputAloneCard
/-- ITS FALSE NEIGHBOUR. Refute it at one input. -/
def FnSourceMappingsOffLeaveScriptOutputAloneToldWrongFalsely : Prop := Claim7.holds Tryf.pinned (.plain (OpenSpec.ofChange fnSourceMappingsOffLeaveScriptOutputAloneWrong)) fnSourceMappingsOffLeaveScriptOutputAloneCard
end Rows
end Go.Proofs.YtpglhdmcbbghpaaFmt
