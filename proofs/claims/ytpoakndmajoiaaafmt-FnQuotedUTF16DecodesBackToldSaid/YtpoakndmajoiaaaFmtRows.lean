/-
  No cell of these rows narrows 'for every input' (looked for: loops, veiled, ifaces, maps, wideKeys, modest, calm, conditions, laid).
  DERIVED. THE GIVEN ROWS OF THIS SEAT. 1 by the template 'for every input the law returns true; each argument reads behind the call as it read before'; 0 by the template 'total and deterministic' (their statements: YtpoakndmajoiaaaFmtTotals.lean).
  GIVEN WITH THE SEED: the statements are not yours to turn. If you find one false, say at which input.
  Laid BY PROGRAM, IN A SANDBOX (cutbox-rows.mjs): the forced cells as the released guide's own fill.sh prints them over the translation e6a0d17874733c7e… (all of the seat's roots in one cut). By AI agents, Wed Nov 11 2026. No macro, syntax, notation, axiom, sorry.
-/
import Derived.Test.YtpoakndmajoiaaaFmtChecked
import GoSem.Claim
import GoSem.ClaimJoined
import GoSem.ClaimMapViews
import Derived.JoinedTies
import Derived.KernelRfl
namespace Go.Proofs.YtpoakndmajoiaaaFmt
/- THE CELL 'sum', in the pinned program and in every row, IS THE sha256 OF THE DUMP (.gsa) THAT YtpoakndmajoiaaaFmtProg.lean LOADS. Nothing in Lean hashes anything: it is a label: what it is worth is what the hold of that sum in a sandbox is worth. -/
noncomputable def Tryf.pinned : Pinned := { name := "ytpoakndmajoiaaafmt", sum := "e6a0d17874733c7ef1936f8fa98c32bf2968f8b4742c8881448f44e062de7616", checked := Tryf.checked }
namespace Rows
def none {H : Type} : Left H := { results := [], args := [] }

/-- 'n011_220.FnQuotedUTF16DecodesBack': WHATEVER THE INPUT: true; the input reads as it did. -/
def fnQuotedUTF16DecodesBackSpec : ChangeSpec := { name := "fnQuotedUTF16DecodesBack", fn := fun _ => fun
  | [d1, d2, d3, d4] => { results := [.lit (.bool true)], args := [d1, d2, d3, d4] }
  | _ => none }
def fnQuotedUTF16DecodesBackRow : OpenClaim := { program := "ytpoakndmajoiaaafmt", sum := "e6a0d17874733c7ef1936f8fa98c32bf2968f8b4742c8881448f44e062de7616", func := "github.com/evanw/esbuild/n011_220.FnQuotedUTF16DecodesBack", spec := "fnQuotedUTF16DecodesBack", stops := ["fmt.Sprintf"], inPlace := ["fmt.Sprintf"], plainKeys := false, apart := false }
/-- NO THEOREM (fmt's text is open here; it may be false): for the released tool's asking of the row's closed facts alone. THE STATEMENT IS 'FnQuotedUTF16DecodesBackToldSaid' (YtpoakndmajoiaaaFmtCards.lean). -/
def FnQuotedUTF16DecodesBackFormAsk : Prop := fnQuotedUTF16DecodesBackRow.holds Tryf.pinned (OpenSpec.ofChange fnQuotedUTF16DecodesBackSpec)

/-- ITS FALSE NEIGHBOUR: 'it returns false'. Refute it at one input. -/
def fnQuotedUTF16DecodesBackWrong : ChangeSpec := { name := "fnQuotedUTF16DecodesBack", fn := fun _ => fun
  | [d1, d2, d3, d4] => { results := [.lit (.bool false)], args := [d1, d2, d3, d4] }
  | _ => none }
def FnQuotedUTF16DecodesBackWrongFormAsk : Prop := fnQuotedUTF16DecodesBackRow.holds Tryf.pinned (OpenSpec.ofChange fnQuotedUTF16DecodesBackWrong)

end Rows
end Go.Proofs.YtpoakndmajoiaaaFmt
