/-
  No cell of these rows narrows 'for every input' (looked for: loops, veiled, ifaces, maps, wideKeys, modest, calm, conditions, laid).
  DERIVED. THE GIVEN ROWS OF THIS SEAT. 1 by the template 'for every input the law returns true; each argument reads behind the call as it read before'; 0 by the template 'total and deterministic' (their statements: YtdejboelpcnigaaFmtTotals.lean).
  GIVEN WITH THE SEED: the statements are not yours to turn. If you find one false, say at which input.
  Laid BY PROGRAM, IN A SANDBOX (cutbox-rows.mjs): the forced cells as the released guide's own fill.sh prints them over the translation 968f551422996ab2… (all of the seat's roots in one cut). By AI agents, Wed Nov 11 2026. No macro, syntax, notation, axiom, sorry.
-/
import Derived.Test.YtdejboelpcnigaaFmtChecked
import GoSem.Claim
import GoSem.ClaimJoined
import GoSem.ClaimMapViews
import Derived.JoinedTies
import Derived.KernelRfl
namespace Go.Proofs.YtdejboelpcnigaaFmt
/- THE CELL 'sum', in the pinned program and in every row, IS THE sha256 OF THE DUMP (.gsa) THAT YtdejboelpcnigaaFmtProg.lean LOADS. Nothing in Lean hashes anything: it is a label: what it is worth is what the hold of that sum in a sandbox is worth. -/
noncomputable def Tryf.pinned : Pinned := { name := "ytdejboelpcnigaafmt", sum := "968f551422996ab22b80073a53a8d2b71fb257b9d3787dfae9c9428b77efc8c9", checked := Tryf.checked }
namespace Rows
def none {H : Type} : Left H := { results := [], args := [] }

/-- 'n011_255.FnQuoteOrNullASCIIModel': WHATEVER THE INPUT: true; the input reads as it did. -/
def fnQuoteOrNullASCIIModelSpec : ChangeSpec := { name := "fnQuoteOrNullASCIIModel", fn := fun _ => fun
  | [d] => { results := [.lit (.bool true)], args := [d] }
  | _ => none }
def fnQuoteOrNullASCIIModelRow : OpenClaim := { program := "ytdejboelpcnigaafmt", sum := "968f551422996ab22b80073a53a8d2b71fb257b9d3787dfae9c9428b77efc8c9", func := "github.com/evanw/esbuild/n011_255.FnQuoteOrNullASCIIModel", spec := "fnQuoteOrNullASCIIModel", stops := ["fmt.Sprintf"], inPlace := ["fmt.Sprintf"], apart := false }
/-- NO THEOREM (fmt's text is open here; it may be false): for the released tool's asking of the row's closed facts alone. THE STATEMENT IS 'FnQuoteOrNullASCIIModelToldSaid' (YtdejboelpcnigaaFmtCards.lean). -/
def FnQuoteOrNullASCIIModelFormAsk : Prop := fnQuoteOrNullASCIIModelRow.holds Tryf.pinned (OpenSpec.ofChange fnQuoteOrNullASCIIModelSpec)

/-- ITS FALSE NEIGHBOUR: 'it returns false'. Refute it at one input. -/
def fnQuoteOrNullASCIIModelWrong : ChangeSpec := { name := "fnQuoteOrNullASCIIModel", fn := fun _ => fun
  | [d] => { results := [.lit (.bool false)], args := [d] }
  | _ => none }
def FnQuoteOrNullASCIIModelWrongFormAsk : Prop := fnQuoteOrNullASCIIModelRow.holds Tryf.pinned (OpenSpec.ofChange fnQuoteOrNullASCIIModelWrong)

end Rows
end Go.Proofs.YtdejboelpcnigaaFmt
