/-
  DERIVED. GIVEN WITH THE SEED: THE CARDS: each row of YtpoakndmajoiaaaFmtRows.lean that lists a variable, with what it lists TIED to the program's text (the seventh form; the later family's looks); each row that meets fmt, with fmt's text TOLD by the authors' own Lean function (tested against real Go, not proved from fmt's source: count such statements apart). THE CARD IS WHAT COUNTS. Prove the row's statement (the work); the ties are given (YtpoakndmajoiaaaFmtTie.lean); close each card by the builder's one call (the guide's Derived/Test/ToyasCard.lean, 'card_holds'). Laid BY PROGRAM, IN A SANDBOX (cutbox-door.mjs). By AI agents, Wed Nov 11 2026. No macro, syntax, notation, axiom, sorry.
-/
import Derived.Test.YtpoakndmajoiaaaFmtRows
import GoSem.ClaimSeven
namespace Go.Proofs.YtpoakndmajoiaaaFmt
namespace Rows

/-- THE TOLD CARD OF 'n011_220.FnQuotedUTF16DecodesBack'. -/
def fnQuotedUTF16DecodesBackCard : Claim7 := { stood := { row := fnQuotedUTF16DecodesBackRow, standIns := [], harness := (true, "d7af68040afa2dc66f1a7daec461c98494dd2ed680187a588bb85d79d1c3a000"), looks := false }, told := true, goes := false }
def FnQuotedUTF16DecodesBackToldSaid : Prop := Claim7.holds Tryf.pinned (.plain (OpenSpec.ofChange fnQuotedUTF16DecodesBackSpec)) fnQuotedUTF16DecodesBackCard
/-- ITS FALSE NEIGHBOUR. Refute it at one input. -/
def FnQuotedUTF16DecodesBackToldWrongFalsely : Prop := Claim7.holds Tryf.pinned (.plain (OpenSpec.ofChange fnQuotedUTF16DecodesBackWrong)) fnQuotedUTF16DecodesBackCard
end Rows
end Go.Proofs.YtpoakndmajoiaaaFmt
