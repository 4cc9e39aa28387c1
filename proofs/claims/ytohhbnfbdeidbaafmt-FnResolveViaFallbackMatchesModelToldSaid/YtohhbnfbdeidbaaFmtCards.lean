/-
  DERIVED. GIVEN WITH THE SEED: THE CARDS: each row of YtohhbnfbdeidbaaFmtRows.lean that lists a variable, with what it lists TIED to the program's text (the seventh form; the later family's looks); each row that meets fmt, with fmt's text TOLD by the authors' own Lean function (tested against real Go, not proved from fmt's source: count such statements apart). THE CARD IS WHAT COUNTS. Prove the row's statement (the work); the ties are given (YtohhbnfbdeidbaaFmtTie.lean); close each card by the builder's one call (the guide's Derived/Test/ToyasCard.lean, 'card_holds'). Laid BY PROGRAM, IN A SANDBOX (cutbox-door.mjs). By AI agents, Wed Nov 11 2026. No macro, syntax, notation, axiom, sorry.
-/
import Derived.Test.YtohhbnfbdeidbaaFmtRows
import GoSem.ClaimSeven
namespace Go.Proofs.YtohhbnfbdeidbaaFmt
namespace Rows

/-- THE TOLD CARD OF 'n011_255.FnGetPackageKeyIsThePair'. -/
def fnGetPackageKeyIsThePairCard : Claim7 := { stood := { row := fnGetPackageKeyIsThePairRow, standIns := [], harness := (true, "16b709e1fc91f2fe6eb618bc9c9171731915ddf22a2ecff311734f61abe6d23f"), looks := false }, told := true, goes := false }
def FnGetPackageKeyIsThePairToldSaid : Prop := Claim7.holds Tryf.pinned (.plain (OpenSpec.ofChange fnGetPackageKeyIsThePairSpec)) fnGetPackageKeyIsThePairCard
/-- ITS FALSE NEIGHBOUR. Refute it at one input. -/
def FnGetPackageKeyIsThePairToldWrongFalsely : Prop := Claim7.holds Tryf.pinned (.plain (OpenSpec.ofChange fnGetPackageKeyIsThePairWrong)) fnGetPackageKeyIsThePairCard

/-- THE TOLD CARD OF 'n011_255.FnResolveViaFallbackMatchesModel'. -/
def fnResolveViaFallbackMatchesModelCard : Claim7 := { stood := { row := fnResolveViaFallbackMatchesModelRow, standIns := [], harness := (true, "16b709e1fc91f2fe6eb618bc9c9171731915ddf22a2ecff311734f61abe6d23f"), looks := false }, told := true, goes := false }
def FnResolveViaFallbackMatchesModelToldSaid : Prop := Claim7.holds Tryf.pinned (.plain (OpenSpec.ofChange fnResolveViaFallbackMatchesModelSpec)) fnResolveViaFallbackMatchesModelCard
/-- ITS FALSE NEIGHBOUR. Refute it at one input. -/
def FnResolveViaFallbackMatchesModelToldWrongFalsely : Prop := Claim7.holds Tryf.pinned (.plain (OpenSpec.ofChange fnResolveViaFallbackMatchesModelWrong)) fnResolveViaFallbackMatchesModelCard
end Rows
end Go.Proofs.YtohhbnfbdeidbaaFmt
