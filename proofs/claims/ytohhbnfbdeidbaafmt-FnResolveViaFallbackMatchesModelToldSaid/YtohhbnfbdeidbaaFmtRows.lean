/-
  No cell of these rows narrows 'for every input' (looked for: loops, veiled, ifaces, maps, wideKeys, modest, calm, conditions, laid).
  DERIVED. THE GIVEN ROWS OF THIS SEAT. 2 by the template 'for every input the law returns true; each argument reads behind the call as it read before'; 0 by the template 'total and deterministic' (their statements: YtohhbnfbdeidbaaFmtTotals.lean).
  GIVEN WITH THE SEED: the statements are not yours to turn. If you find one false, say at which input.
  Laid BY PROGRAM, IN A SANDBOX (cutbox-rows.mjs): the forced cells as the released guide's own fill.sh prints them over the translation 64048c0b6e90b532… (all of the seat's roots in one cut). By AI agents, Wed Nov 11 2026. No macro, syntax, notation, axiom, sorry.
-/
import Derived.Test.YtohhbnfbdeidbaaFmtChecked
import GoSem.Claim
import GoSem.ClaimJoined
import GoSem.ClaimMapViews
import Derived.JoinedTies
import Derived.KernelRfl
namespace Go.Proofs.YtohhbnfbdeidbaaFmt
/- THE CELL 'sum', in the pinned program and in every row, IS THE sha256 OF THE DUMP (.gsa) THAT YtohhbnfbdeidbaaFmtProg.lean LOADS. Nothing in Lean hashes anything: it is a label: what it is worth is what the hold of that sum in a sandbox is worth. -/
noncomputable def Tryf.pinned : Pinned := { name := "ytohhbnfbdeidbaafmt", sum := "64048c0b6e90b53279e22107578b521278bf5e4e435c9c2f9e4054c7805666b3", checked := Tryf.checked }
namespace Rows
def none {H : Type} : Left H := { results := [], args := [] }

/-- 'n011_255.FnGetPackageKeyIsThePair': WHATEVER THE INPUT: true; the input reads as it did. -/
def fnGetPackageKeyIsThePairSpec : ChangeSpec := { name := "fnGetPackageKeyIsThePair", fn := fun _ => fun
  | [d1, d2, d3] => { results := [.lit (.bool true)], args := [d1, d2, d3] }
  | _ => none }
def fnGetPackageKeyIsThePairRow : OpenClaim := { program := "ytohhbnfbdeidbaafmt", sum := "64048c0b6e90b53279e22107578b521278bf5e4e435c9c2f9e4054c7805666b3", func := "github.com/evanw/esbuild/n011_255.FnGetPackageKeyIsThePair", spec := "fnGetPackageKeyIsThePair", stops := ["fmt.Sprintf"], inPlace := ["fmt.Sprintf"], plainKeys := false, apart := false }
/-- NO THEOREM (fmt's text is open here; it may be false): for the released tool's asking of the row's closed facts alone. THE STATEMENT IS 'FnGetPackageKeyIsThePairToldSaid' (YtohhbnfbdeidbaaFmtCards.lean). -/
def FnGetPackageKeyIsThePairFormAsk : Prop := fnGetPackageKeyIsThePairRow.holds Tryf.pinned (OpenSpec.ofChange fnGetPackageKeyIsThePairSpec)

/-- ITS FALSE NEIGHBOUR: 'it returns false'. Refute it at one input. -/
def fnGetPackageKeyIsThePairWrong : ChangeSpec := { name := "fnGetPackageKeyIsThePair", fn := fun _ => fun
  | [d1, d2, d3] => { results := [.lit (.bool false)], args := [d1, d2, d3] }
  | _ => none }
def FnGetPackageKeyIsThePairWrongFormAsk : Prop := fnGetPackageKeyIsThePairRow.holds Tryf.pinned (OpenSpec.ofChange fnGetPackageKeyIsThePairWrong)

/-- 'n011_255.FnResolveViaFallbackMatchesModel': WHATEVER THE INPUT: true; the input reads as it did. -/
def fnResolveViaFallbackMatchesModelSpec : ChangeSpec := { name := "fnResolveViaFallbackMatchesModel", fn := fun _ => fun
  | [d1, d2, d3, d4, d5, d6, d7, d8] => { results := [.lit (.bool true)], args := [d1, d2, d3, d4, d5, d6, d7, d8] }
  | _ => none }
def fnResolveViaFallbackMatchesModelRow : OpenClaim := { program := "ytohhbnfbdeidbaafmt", sum := "64048c0b6e90b53279e22107578b521278bf5e4e435c9c2f9e4054c7805666b3", func := "github.com/evanw/esbuild/n011_255.FnResolveViaFallbackMatchesModel", spec := "fnResolveViaFallbackMatchesModel", stops := ["fmt.Sprintf"], inPlace := ["fmt.Sprintf"], plainKeys := false, apart := false }
/-- NO THEOREM (fmt's text is open here; it may be false): for the released tool's asking of the row's closed facts alone. THE STATEMENT IS 'FnResolveViaFallbackMatchesModelToldSaid' (YtohhbnfbdeidbaaFmtCards.lean). -/
def FnResolveViaFallbackMatchesModelFormAsk : Prop := fnResolveViaFallbackMatchesModelRow.holds Tryf.pinned (OpenSpec.ofChange fnResolveViaFallbackMatchesModelSpec)

/-- ITS FALSE NEIGHBOUR: 'it returns false'. Refute it at one input. -/
def fnResolveViaFallbackMatchesModelWrong : ChangeSpec := { name := "fnResolveViaFallbackMatchesModel", fn := fun _ => fun
  | [d1, d2, d3, d4, d5, d6, d7, d8] => { results := [.lit (.bool false)], args := [d1, d2, d3, d4, d5, d6, d7, d8] }
  | _ => none }
def FnResolveViaFallbackMatchesModelWrongFormAsk : Prop := fnResolveViaFallbackMatchesModelRow.holds Tryf.pinned (OpenSpec.ofChange fnResolveViaFallbackMatchesModelWrong)

end Rows
end Go.Proofs.YtohhbnfbdeidbaaFmt
