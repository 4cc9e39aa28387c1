/-
  No cell of these rows narrows 'for every input' (looked for: loops, veiled, ifaces, maps, wideKeys, modest, calm, conditions, laid).
  DERIVED. THE GIVEN ROWS OF THIS SEAT. 1 by the template 'for every input the law returns true; each argument reads behind the call as it read before'; 0 by the template 'total and deterministic' (their statements: YtkepmnenafggjaaFmtTotals.lean).
  GIVEN WITH THE SEED: the statements are not yours to turn. If you find one false, say at which input.
  Laid BY PROGRAM, IN A SANDBOX (cutbox-rows.mjs): the forced cells as the released guide's own fill.sh prints them over the translation ed0ec3e115e06e63… (all of the seat's roots in one cut). By AI agents, Wed Nov 11 2026. No macro, syntax, notation, axiom, sorry.
-/
import Derived.Test.YtkepmnenafggjaaFmtChecked
import GoSem.Claim
import GoSem.ClaimJoined
import GoSem.ClaimMapViews
import Derived.JoinedTies
import Derived.KernelRfl
namespace Go.Proofs.YtkepmnenafggjaaFmt
/- THE CELL 'sum', in the pinned program and in every row, IS THE sha256 OF THE DUMP (.gsa) THAT YtkepmnenafggjaaFmtProg.lean LOADS. Nothing in Lean hashes anything: it is a label: what it is worth is what the hold of that sum in a sandbox is worth. -/
noncomputable def Tryf.pinned : Pinned := { name := "ytkepmnenafggjaafmt", sum := "ed0ec3e115e06e632b795a5af99c605589211cd5fd9944658efe908895ff6a6b", checked := Tryf.checked }
namespace Rows
def none {H : Type} : Left H := { results := [], args := [] }

/-- 'n011_208.FnPrintIdentifierMatchesEscapeModel': WHATEVER THE INPUT: true; the input reads as it did. -/
def fnPrintIdentifierMatchesEscapeModelSpec : ChangeSpec := { name := "fnPrintIdentifierMatchesEscapeModel", fn := fun _ => fun
  | [d1, d2, d3] => { results := [.lit (.bool true)], args := [d1, d2, d3] }
  | _ => none }
def fnPrintIdentifierMatchesEscapeModelRow : OpenClaim := { program := "ytkepmnenafggjaafmt", sum := "ed0ec3e115e06e632b795a5af99c605589211cd5fd9944658efe908895ff6a6b", func := "github.com/evanw/esbuild/n011_208.FnPrintIdentifierMatchesEscapeModel", spec := "fnPrintIdentifierMatchesEscapeModel", stops := ["fmt.Sprintf"], inPlace := ["fmt.Sprintf"], plainKeys := false, apart := false }
/-- NO THEOREM (fmt's text is open here; it may be false): for the released tool's asking of the row's closed facts alone. THE STATEMENT IS 'FnPrintIdentifierMatchesEscapeModelToldSaid' (YtkepmnenafggjaaFmtCards.lean). -/
def FnPrintIdentifierMatchesEscapeModelFormAsk : Prop := fnPrintIdentifierMatchesEscapeModelRow.holds Tryf.pinned (OpenSpec.ofChange fnPrintIdentifierMatchesEscapeModelSpec)

/-- ITS FALSE NEIGHBOUR: 'it returns false'. Refute it at one input. -/
def fnPrintIdentifierMatchesEscapeModelWrong : ChangeSpec := { name := "fnPrintIdentifierMatchesEscapeModel", fn := fun _ => fun
  | [d1, d2, d3] => { results := [.lit (.bool false)], args := [d1, d2, d3] }
  | _ => none }
def FnPrintIdentifierMatchesEscapeModelWrongFormAsk : Prop := fnPrintIdentifierMatchesEscapeModelRow.holds Tryf.pinned (OpenSpec.ofChange fnPrintIdentifierMatchesEscapeModelWrong)

end Rows
end Go.Proofs.YtkepmnenafggjaaFmt
