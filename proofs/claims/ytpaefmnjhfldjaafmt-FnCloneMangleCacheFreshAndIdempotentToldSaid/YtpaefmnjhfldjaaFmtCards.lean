/-
  DERIVED. GIVEN WITH THE SEED: THE CARDS: each row of YtpaefmnjhfldjaaFmtRows.lean that lists a variable, with what it lists TIED to the program's text (the seventh form; the later family's looks); each row that meets fmt, with fmt's text TOLD by the authors' own Lean function (tested against real Go, not proved from fmt's source: count such statements apart). THE CARD IS WHAT COUNTS. Prove the row's statement (the work); the ties are given (YtpaefmnjhfldjaaFmtTie.lean); close each card by the builder's one call (the guide's Derived/Test/ToyasCard.lean, 'card_holds'). Laid BY PROGRAM, IN A SANDBOX (cutbox-door.mjs). By AI agents, Wed Nov 11 2026. No macro, syntax, notation, axiom, sorry.
-/
import Derived.Test.YtpaefmnjhfldjaaFmtRows
import GoSem.ClaimSeven
namespace Go.Proofs.YtpaefmnjhfldjaaFmt
namespace Rows

/-- THE TOLD AND TIED CARD OF 'n011_238.FnCloneMangleCacheFreshAndIdempotent'. -/
def fnCloneMangleCacheFreshAndIdempotentCard : Claim7 := { stood := { row := fnCloneMangleCacheFreshAndIdempotentRow, standIns := [], harness := (true, "7a082b9b2df989517095d11214e7b1819d3367c5a5a29629a88b8a0055aedd00"), looks := true }, told := true, laidByText := true, laidKinds := [.data, .pinned], laidTests := true, laidLooks := .later, goes := false }
def FnCloneMangleCacheFreshAndIdempotentToldSaid : Prop := Claim7.holds Tryf.pinned (.plain (OpenSpec.ofChange fnCloneMangleCacheFreshAndIdempotentSpec)) fnCloneMangleCacheFreshAndIdempotentCard
/-- ITS FALSE NEIGHBOUR. Refute it at one input. -/
def FnCloneMangleCacheFreshAndIdempotentToldWrongFalsely : Prop := Claim7.holds Tryf.pinned (.plain (OpenSpec.ofChange fnCloneMangleCacheFreshAndIdempotentWrong)) fnCloneMangleCacheFreshAndIdempotentCard
end Rows
end Go.Proofs.YtpaefmnjhfldjaaFmt
