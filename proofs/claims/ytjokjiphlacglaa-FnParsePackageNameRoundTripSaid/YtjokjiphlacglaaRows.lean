/-
  No cell of these rows narrows 'for every input' (looked for: loops, veiled, ifaces, maps, wideKeys, modest, calm, conditions, laid).
  DERIVED. THE GIVEN ROWS OF THIS SEAT. 3 by the template 'for every input the law returns true; each argument reads behind the call as it read before'; 0 by the template 'total and deterministic' (their statements: YtjokjiphlacglaaTotals.lean).
  GIVEN WITH THE SEED: the statements are not yours to turn. If you find one false, say at which input.
  Laid BY PROGRAM, IN A SANDBOX (cutbox-rows.mjs): the forced cells as the released guide's own fill.sh prints them over the translation 5c4407a28fc6d532… (all of the seat's roots in one cut). By AI agents, Wed Nov 11 2026. No macro, syntax, notation, axiom, sorry.
-/
import Derived.Test.YtjokjiphlacglaaChecked
import GoSem.Claim
import GoSem.ClaimJoined
import GoSem.ClaimMapViews
import Derived.JoinedTies
import Derived.KernelRfl
namespace Go.Proofs.Ytjokjiphlacglaa
/- THE CELL 'sum', in the pinned program and in every row, IS THE sha256 OF THE DUMP (.gsa) THAT YtjokjiphlacglaaProg.lean LOADS. Nothing in Lean hashes anything: it is a label: what it is worth is what the hold of that sum in a sandbox is worth. -/
noncomputable def Try.pinned : Pinned := { name := "ytjokjiphlacglaa", sum := "5c4407a28fc6d532889947be9e7041e9ecbf30e5705e1891d9b21e1bc7d83ff4", checked := Try.checked }
namespace Rows
def none {H : Type} : Left H := { results := [], args := [] }

/-- 'n011_162.FnParseBareIdentifierSpec': WHATEVER THE INPUT: true; the input reads as it did. -/
def fnParseBareIdentifierSpecSpec : ChangeSpec := { name := "fnParseBareIdentifierSpec", fn := fun _ => fun
  | [d] => { results := [.lit (.bool true)], args := [d] }
  | _ => none }
def fnParseBareIdentifierSpecRow : OpenClaim := { program := "ytjokjiphlacglaa", sum := "5c4407a28fc6d532889947be9e7041e9ecbf30e5705e1891d9b21e1bc7d83ff4", func := "github.com/evanw/esbuild/n011_162.FnParseBareIdentifierSpec", spec := "fnParseBareIdentifierSpec", inPlace := ["internal/bytealg.IndexByteString"], apart := false }
def FnParseBareIdentifierSpecSaid : Prop := fnParseBareIdentifierSpecRow.holds Try.pinned (OpenSpec.ofChange fnParseBareIdentifierSpecSpec)

/-- ITS FALSE NEIGHBOUR: 'it returns false'. Refute it at one input. -/
def fnParseBareIdentifierSpecWrong : ChangeSpec := { name := "fnParseBareIdentifierSpec", fn := fun _ => fun
  | [d] => { results := [.lit (.bool false)], args := [d] }
  | _ => none }
def FnParseBareIdentifierSpecWrongFalsely : Prop := fnParseBareIdentifierSpecRow.holds Try.pinned (OpenSpec.ofChange fnParseBareIdentifierSpecWrong)

/-- 'n011_78.FnParsePackageNameModel': WHATEVER THE INPUT: true; the input reads as it did. -/
def fnParsePackageNameModelSpec : ChangeSpec := { name := "fnParsePackageNameModel", fn := fun _ => fun
  | [d] => { results := [.lit (.bool true)], args := [d] }
  | _ => none }
def fnParsePackageNameModelRow : OpenClaim := { program := "ytjokjiphlacglaa", sum := "5c4407a28fc6d532889947be9e7041e9ecbf30e5705e1891d9b21e1bc7d83ff4", func := "github.com/evanw/esbuild/n011_78.FnParsePackageNameModel", spec := "fnParsePackageNameModel", inPlace := ["internal/bytealg.IndexByteString", "internal/bytealg.IndexString"], named := ["internal/bytealg.MaxLen"], apart := false }
def FnParsePackageNameModelSaid : Prop := fnParsePackageNameModelRow.holds Try.pinned (OpenSpec.ofChange fnParsePackageNameModelSpec)

/-- ITS FALSE NEIGHBOUR: 'it returns false'. Refute it at one input. -/
def fnParsePackageNameModelWrong : ChangeSpec := { name := "fnParsePackageNameModel", fn := fun _ => fun
  | [d] => { results := [.lit (.bool false)], args := [d] }
  | _ => none }
def FnParsePackageNameModelWrongFalsely : Prop := fnParsePackageNameModelRow.holds Try.pinned (OpenSpec.ofChange fnParsePackageNameModelWrong)

/-- 'n011_78.FnParsePackageNameRoundTrip': WHATEVER THE INPUT: true; the input reads as it did. -/
def fnParsePackageNameRoundTripSpec : ChangeSpec := { name := "fnParsePackageNameRoundTrip", fn := fun _ => fun
  | [d] => { results := [.lit (.bool true)], args := [d] }
  | _ => none }
def fnParsePackageNameRoundTripRow : OpenClaim := { program := "ytjokjiphlacglaa", sum := "5c4407a28fc6d532889947be9e7041e9ecbf30e5705e1891d9b21e1bc7d83ff4", func := "github.com/evanw/esbuild/n011_78.FnParsePackageNameRoundTrip", spec := "fnParsePackageNameRoundTrip", inPlace := ["internal/bytealg.IndexByteString", "internal/bytealg.IndexString"], named := ["internal/bytealg.MaxLen"], apart := false }
def FnParsePackageNameRoundTripSaid : Prop := fnParsePackageNameRoundTripRow.holds Try.pinned (OpenSpec.ofChange fnParsePackageNameRoundTripSpec)

/-- ITS FALSE NEIGHBOUR: 'it returns false'. Refute it at one input. -/
def fnParsePackageNameRoundTripWrong : ChangeSpec := { name := "fnParsePackageNameRoundTrip", fn := fun _ => fun
  | [d] => { results := [.lit (.bool false)], args := [d] }
  | _ => none }
def FnParsePackageNameRoundTripWrongFalsely : Prop := fnParsePackageNameRoundTripRow.holds Try.pinned (OpenSpec.ofChange fnParsePackageNameRoundTripWrong)

/- THE SECOND FORM. 'bulk': how many values and letters a reading holds, each counted each time it is reached (what is shared counts as often as it is met; a slice's spare places count too). A statement '..UptoSaid' is the law's where the arguments, and the package variables that the reading takes, are together of bulk at most 1048576: NARROWER than '..Said'. Prove '..Said' where nothing that the law and all that it calls make is longer than what came in: it says more and counts as full. Else prove '..UptoSaid'. A law counts once. -/
mutual
def uptoBulk {H : Type} : DataW H → Nat
  | .lit (.string bytes) => bytes.length + 1
  | .lit _ => 1
  | .nil => 1
  | .ptr d => uptoBulk d + 1
  | .slice elems spare => uptoBulkAll elems + uptoBulkAll spare + 1
  | .agg parts => uptoBulkAll parts + 1
  | .iface _ d => uptoBulk d + 1
  | .map entries => uptoBulkEntries entries + 1
  | .held _ => 1
def uptoBulkAll {H : Type} : List (DataW H) → Nat
  | [] => 0
  | d :: r => uptoBulk d + uptoBulkAll r
def uptoBulkEntries {H : Type} : List (Lit × DataW H) → Nat
  | [] => 0
  | x :: r => uptoBulkEntry x + uptoBulkEntries r
def uptoBulkEntry {H : Type} : Lit × DataW H → Nat
  | (.string bytes, d) => bytes.length + uptoBulk d + 1
  | (_, d) => uptoBulk d + 1
 end
def uptoSmall : (H : Type) → List (DataW H) → Bool := fun _ ds => decide (uptoBulkAll ds ≤ 1048576)
def OpenSpec.upto (s : _root_.Go.ChangeSpec) : _root_.Go.OpenSpec := { _root_.Go.OpenSpec.ofChange s with cond := some uptoSmall }

/-- 'n011_162.FnParseBareIdentifierSpec', WHERE WHAT IT READS IS OF BULK AT MOST 1048576: true; the input reads as it did. -/
def fnParseBareIdentifierSpecUptoRow : OpenClaim := { program := "ytjokjiphlacglaa", sum := "5c4407a28fc6d532889947be9e7041e9ecbf30e5705e1891d9b21e1bc7d83ff4", func := "github.com/evanw/esbuild/n011_162.FnParseBareIdentifierSpec", spec := "fnParseBareIdentifierSpec", inPlace := ["internal/bytealg.IndexByteString"], apart := false, narrowed := true }
def FnParseBareIdentifierSpecUptoSaid : Prop := fnParseBareIdentifierSpecUptoRow.holds Try.pinned (OpenSpec.upto fnParseBareIdentifierSpecSpec)

/-- 'n011_78.FnParsePackageNameModel', WHERE WHAT IT READS IS OF BULK AT MOST 1048576: true; the input reads as it did. -/
def fnParsePackageNameModelUptoRow : OpenClaim := { program := "ytjokjiphlacglaa", sum := "5c4407a28fc6d532889947be9e7041e9ecbf30e5705e1891d9b21e1bc7d83ff4", func := "github.com/evanw/esbuild/n011_78.FnParsePackageNameModel", spec := "fnParsePackageNameModel", inPlace := ["internal/bytealg.IndexByteString", "internal/bytealg.IndexString"], named := ["internal/bytealg.MaxLen"], apart := false, narrowed := true }
def FnParsePackageNameModelUptoSaid : Prop := fnParsePackageNameModelUptoRow.holds Try.pinned (OpenSpec.upto fnParsePackageNameModelSpec)

/-- 'n011_78.FnParsePackageNameRoundTrip', WHERE WHAT IT READS IS OF BULK AT MOST 1048576: true; the input reads as it did. -/
def fnParsePackageNameRoundTripUptoRow : OpenClaim := { program := "ytjokjiphlacglaa", sum := "5c4407a28fc6d532889947be9e7041e9ecbf30e5705e1891d9b21e1bc7d83ff4", func := "github.com/evanw/esbuild/n011_78.FnParsePackageNameRoundTrip", spec := "fnParsePackageNameRoundTrip", inPlace := ["internal/bytealg.IndexByteString", "internal/bytealg.IndexString"], named := ["internal/bytealg.MaxLen"], apart := false, narrowed := true }
def FnParsePackageNameRoundTripUptoSaid : Prop := fnParsePackageNameRoundTripUptoRow.holds Try.pinned (OpenSpec.upto fnParsePackageNameRoundTripSpec)

end Rows
end Go.Proofs.Ytjokjiphlacglaa
