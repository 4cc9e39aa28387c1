/-
  No cell of these rows narrows 'for every input' (looked for: loops, veiled, ifaces, maps, wideKeys, modest, calm, conditions, laid).
  DERIVED. THE GIVEN ROWS OF THIS SEAT. 4 by the template 'for every input the law returns true; each argument reads behind the call as it read before'; 0 by the template 'total and deterministic' (their statements: YtjedmmfkchcclaaTotals.lean).
  GIVEN WITH THE SEED: the statements are not yours to turn. If you find one false, say at which input.
  Laid BY PROGRAM, IN A SANDBOX (cutbox-rows.mjs): the forced cells as the released guide's own fill.sh prints them over the translation 8626202cabc54de3… (all of the seat's roots in one cut). By AI agents, Wed Nov 11 2026. No macro, syntax, notation, axiom, sorry.
-/
import Derived.Test.YtjedmmfkchcclaaChecked
import GoSem.Claim
import GoSem.ClaimJoined
import GoSem.ClaimMapViews
import Derived.JoinedTies
import Derived.KernelRfl
namespace Go.Proofs.Ytjedmmfkchcclaa
/- THE CELL 'sum', in the pinned program and in every row, IS THE sha256 OF THE DUMP (.gsa) THAT YtjedmmfkchcclaaProg.lean LOADS. Nothing in Lean hashes anything: it is a label: what it is worth is what the hold of that sum in a sandbox is worth. -/
noncomputable def Try.pinned : Pinned := { name := "ytjedmmfkchcclaa", sum := "8626202cabc54de3eacc533cb01825ee666d417904c8454ff2854287479306c1", checked := Try.checked }
namespace Rows
def none {H : Type} : Left H := { results := [], args := [] }

/-- 'n011_45.FnFormatInjective': WHATEVER THE INPUT: true; the input reads as it did. -/
def fnFormatInjectiveSpec : ChangeSpec := { name := "fnFormatInjective", fn := fun _ => fun
  | [d1, d2] => { results := [.lit (.bool true)], args := [d1, d2] }
  | _ => none }
def fnFormatInjectiveRow : OpenClaim := { program := "ytjedmmfkchcclaa", sum := "8626202cabc54de3eacc533cb01825ee666d417904c8454ff2854287479306c1", func := "github.com/evanw/esbuild/n011_45.FnFormatInjective", spec := "fnFormatInjective", apart := false }
def FnFormatInjectiveSaid : Prop := fnFormatInjectiveRow.holds Try.pinned (OpenSpec.ofChange fnFormatInjectiveSpec)

/-- ITS FALSE NEIGHBOUR: 'it returns false'. Refute it at one input. -/
def fnFormatInjectiveWrong : ChangeSpec := { name := "fnFormatInjective", fn := fun _ => fun
  | [d1, d2] => { results := [.lit (.bool false)], args := [d1, d2] }
  | _ => none }
def FnFormatInjectiveWrongFalsely : Prop := fnFormatInjectiveRow.holds Try.pinned (OpenSpec.ofChange fnFormatInjectiveWrong)

/-- 'n011_45.FnPlatformCollapse': WHATEVER THE INPUT: true; the input reads as it did. -/
def fnPlatformCollapseSpec : ChangeSpec := { name := "fnPlatformCollapse", fn := fun _ => fun
  | [d1, d2] => { results := [.lit (.bool true)], args := [d1, d2] }
  | _ => none }
def fnPlatformCollapseRow : OpenClaim := { program := "ytjedmmfkchcclaa", sum := "8626202cabc54de3eacc533cb01825ee666d417904c8454ff2854287479306c1", func := "github.com/evanw/esbuild/n011_45.FnPlatformCollapse", spec := "fnPlatformCollapse", apart := false }
def FnPlatformCollapseSaid : Prop := fnPlatformCollapseRow.holds Try.pinned (OpenSpec.ofChange fnPlatformCollapseSpec)

/-- ITS FALSE NEIGHBOUR: 'it returns false'. Refute it at one input. -/
def fnPlatformCollapseWrong : ChangeSpec := { name := "fnPlatformCollapse", fn := fun _ => fun
  | [d1, d2] => { results := [.lit (.bool false)], args := [d1, d2] }
  | _ => none }
def FnPlatformCollapseWrongFalsely : Prop := fnPlatformCollapseRow.holds Try.pinned (OpenSpec.ofChange fnPlatformCollapseWrong)

/-- 'n011_7.FnImportKindAgreesWithMetafileName': WHATEVER THE INPUT: true; the input reads as it did. -/
def fnImportKindAgreesWithMetafileNameSpec : ChangeSpec := { name := "fnImportKindAgreesWithMetafileName", fn := fun _ => fun
  | [d] => { results := [.lit (.bool true)], args := [d] }
  | _ => none }
def fnImportKindAgreesWithMetafileNameRow : OpenClaim := { program := "ytjedmmfkchcclaa", sum := "8626202cabc54de3eacc533cb01825ee666d417904c8454ff2854287479306c1", func := "github.com/evanw/esbuild/n011_7.FnImportKindAgreesWithMetafileName", spec := "fnImportKindAgreesWithMetafileName", apart := false }
def FnImportKindAgreesWithMetafileNameSaid : Prop := fnImportKindAgreesWithMetafileNameRow.holds Try.pinned (OpenSpec.ofChange fnImportKindAgreesWithMetafileNameSpec)

/-- ITS FALSE NEIGHBOUR: 'it returns false'. Refute it at one input. -/
def fnImportKindAgreesWithMetafileNameWrong : ChangeSpec := { name := "fnImportKindAgreesWithMetafileName", fn := fun _ => fun
  | [d] => { results := [.lit (.bool false)], args := [d] }
  | _ => none }
def FnImportKindAgreesWithMetafileNameWrongFalsely : Prop := fnImportKindAgreesWithMetafileNameRow.holds Try.pinned (OpenSpec.ofChange fnImportKindAgreesWithMetafileNameWrong)

/-- 'n011_95.FnColorDistinct': WHATEVER THE INPUT: true; the input reads as it did. -/
def fnColorDistinctSpec : ChangeSpec := { name := "fnColorDistinct", fn := fun _ => fun
  | [d1, d2] => { results := [.lit (.bool true)], args := [d1, d2] }
  | _ => none }
def fnColorDistinctRow : OpenClaim := { program := "ytjedmmfkchcclaa", sum := "8626202cabc54de3eacc533cb01825ee666d417904c8454ff2854287479306c1", func := "github.com/evanw/esbuild/n011_95.FnColorDistinct", spec := "fnColorDistinct", apart := false }
def FnColorDistinctSaid : Prop := fnColorDistinctRow.holds Try.pinned (OpenSpec.ofChange fnColorDistinctSpec)

/-- ITS FALSE NEIGHBOUR: 'it returns false'. Refute it at one input. -/
def fnColorDistinctWrong : ChangeSpec := { name := "fnColorDistinct", fn := fun _ => fun
  | [d1, d2] => { results := [.lit (.bool false)], args := [d1, d2] }
  | _ => none }
def FnColorDistinctWrongFalsely : Prop := fnColorDistinctRow.holds Try.pinned (OpenSpec.ofChange fnColorDistinctWrong)

/- THE SECOND FORM. 'bulk': how many values and letters a reading holds, each counted each time it is reached (what is shared counts as often as it is met; a slice's spare places count too). A statement '..UptoSaid' is the law's where the arguments, and the package variables that the reading takes, are together of bulk at most 1048576: NARROWER than '..Said'. Prove '..Said' where nothing that the law and all that it calls make is longer than what came in: it says more and counts as full. Else prove '..UptoSaid'. A law counts once. -/
mutual
def uptoBulk {H : Type} : DataW H → Nat
  | .lit (.string bytes) => bytes.length + 1
  | .lit _ => 1
  | .nil => 1
  | .ptr d => uptoBulk d + 1
  | .slice elems spare => uptoBulkAll elems + uptoBulkAll spare + 1
  | .agg parts => uptoBulkAll parts + 1
  | .iface _ d => uptoBulk d + 1
  | .map entries => uptoBulkEntries entries + 1
  | .held _ => 1
def uptoBulkAll {H : Type} : List (DataW H) → Nat
  | [] => 0
  | d :: r => uptoBulk d + uptoBulkAll r
def uptoBulkEntries {H : Type} : List (Lit × DataW H) → Nat
  | [] => 0
  | x :: r => uptoBulkEntry x + uptoBulkEntries r
def uptoBulkEntry {H : Type} : Lit × DataW H → Nat
  | (.string bytes, d) => bytes.length + uptoBulk d + 1
  | (_, d) => uptoBulk d + 1
 end
def uptoSmall : (H : Type) → List (DataW H) → Bool := fun _ ds => decide (uptoBulkAll ds ≤ 1048576)
def OpenSpec.upto (s : _root_.Go.ChangeSpec) : _root_.Go.OpenSpec := { _root_.Go.OpenSpec.ofChange s with cond := some uptoSmall }

/-- 'n011_45.FnFormatInjective', WHERE WHAT IT READS IS OF BULK AT MOST 1048576: true; the input reads as it did. -/
def fnFormatInjectiveUptoRow : OpenClaim := { program := "ytjedmmfkchcclaa", sum := "8626202cabc54de3eacc533cb01825ee666d417904c8454ff2854287479306c1", func := "github.com/evanw/esbuild/n011_45.FnFormatInjective", spec := "fnFormatInjective", apart := false, narrowed := true }
def FnFormatInjectiveUptoSaid : Prop := fnFormatInjectiveUptoRow.holds Try.pinned (OpenSpec.upto fnFormatInjectiveSpec)

/-- 'n011_45.FnPlatformCollapse', WHERE WHAT IT READS IS OF BULK AT MOST 1048576: true; the input reads as it did. -/
def fnPlatformCollapseUptoRow : OpenClaim := { program := "ytjedmmfkchcclaa", sum := "8626202cabc54de3eacc533cb01825ee666d417904c8454ff2854287479306c1", func := "github.com/evanw/esbuild/n011_45.FnPlatformCollapse", spec := "fnPlatformCollapse", apart := false, narrowed := true }
def FnPlatformCollapseUptoSaid : Prop := fnPlatformCollapseUptoRow.holds Try.pinned (OpenSpec.upto fnPlatformCollapseSpec)

/-- 'n011_7.FnImportKindAgreesWithMetafileName', WHERE WHAT IT READS IS OF BULK AT MOST 1048576: true; the input reads as it did. -/
def fnImportKindAgreesWithMetafileNameUptoRow : OpenClaim := { program := "ytjedmmfkchcclaa", sum := "8626202cabc54de3eacc533cb01825ee666d417904c8454ff2854287479306c1", func := "github.com/evanw/esbuild/n011_7.FnImportKindAgreesWithMetafileName", spec := "fnImportKindAgreesWithMetafileName", apart := false, narrowed := true }
def FnImportKindAgreesWithMetafileNameUptoSaid : Prop := fnImportKindAgreesWithMetafileNameUptoRow.holds Try.pinned (OpenSpec.upto fnImportKindAgreesWithMetafileNameSpec)

/-- 'n011_95.FnColorDistinct', WHERE WHAT IT READS IS OF BULK AT MOST 1048576: true; the input reads as it did. -/
def fnColorDistinctUptoRow : OpenClaim := { program := "ytjedmmfkchcclaa", sum := "8626202cabc54de3eacc533cb01825ee666d417904c8454ff2854287479306c1", func := "github.com/evanw/esbuild/n011_95.FnColorDistinct", spec := "fnColorDistinct", apart := false, narrowed := true }
def FnColorDistinctUptoSaid : Prop := fnColorDistinctUptoRow.holds Try.pinned (OpenSpec.upto fnColorDistinctSpec)

end Rows
end Go.Proofs.Ytjedmmfkchcclaa
