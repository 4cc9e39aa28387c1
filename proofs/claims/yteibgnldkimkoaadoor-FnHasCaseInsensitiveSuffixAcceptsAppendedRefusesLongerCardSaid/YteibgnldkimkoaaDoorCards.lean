/-
  DERIVED. GIVEN WITH THE SEED: THE CARDS: each row of YteibgnldkimkoaaDoorRows.lean that lists a variable, with what it lists TIED to the program's text (the seventh form; the later family's looks); each row that meets fmt, with fmt's text TOLD by the authors' own Lean function (tested against real Go, not proved from fmt's source: count such statements apart). THE CARD IS WHAT COUNTS. Prove the row's statement (the work); the ties are given (YteibgnldkimkoaaDoorTie.lean); close each card by the builder's one call (the guide's Derived/Test/ToyasCard.lean, 'card_holds'). Laid BY PROGRAM, IN A SANDBOX (cutbox-door.mjs). By AI agents, Wed Nov 11 2026. No macro, syntax, notation, axiom, sorry.
-/
import Derived.Test.YteibgnldkimkoaaDoorRows
import GoSem.ClaimSeven
namespace Go.Proofs.YteibgnldkimkoaaDoor
namespace Rows

/-- THE TIED CARD OF 'n011_219.FnHasCaseInsensitiveSuffixAcceptsAppendedRefusesLonger'. -/
def fnHasCaseInsensitiveSuffixAcceptsAppendedRefusesLongerCard : Claim7 := { stood := { row := fnHasCaseInsensitiveSuffixAcceptsAppendedRefusesLongerRow, standIns := [], harness := (true, "c4046735057efa6b158625aa0a16f465559d332a99af0273de5445e0921dfd8d"), looks := false }, kinds := [], alts := [], laidByText := true, laidKinds := [.data, .data, .data, .pinned, .pinned], laidTests := true, laidLooks := .later }
def FnHasCaseInsensitiveSuffixAcceptsAppendedRefusesLongerCardSaid : Prop := Claim7.holds Tryd.pinned (.plain (OpenSpec.ofChange fnHasCaseInsensitiveSuffixAcceptsAppendedRefusesLongerSpec)) fnHasCaseInsensitiveSuffixAcceptsAppendedRefusesLongerCard

/-- THE SECOND FORM's CARD OF 'n011_219.FnHasCaseInsensitiveSuffixAcceptsAppendedRefusesLonger'. -/
def fnHasCaseInsensitiveSuffixAcceptsAppendedRefusesLongerUptoCard : Claim7 := { stood := { row := fnHasCaseInsensitiveSuffixAcceptsAppendedRefusesLongerUptoRow, standIns := [], harness := (true, "c4046735057efa6b158625aa0a16f465559d332a99af0273de5445e0921dfd8d"), looks := false }, kinds := [], alts := [], laidByText := true, laidKinds := [.data, .data, .data, .pinned, .pinned], laidTests := true, laidLooks := .later }
def FnHasCaseInsensitiveSuffixAcceptsAppendedRefusesLongerUptoCardSaid : Prop := Claim7.holds Tryd.pinned (.plain (OpenSpec.upto fnHasCaseInsensitiveSuffixAcceptsAppendedRefusesLongerSpec)) fnHasCaseInsensitiveSuffixAcceptsAppendedRefusesLongerUptoCard
end Rows
end Go.Proofs.YteibgnldkimkoaaDoor
