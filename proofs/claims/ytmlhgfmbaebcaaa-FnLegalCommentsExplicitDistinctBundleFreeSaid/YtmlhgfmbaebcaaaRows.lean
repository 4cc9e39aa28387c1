/-
  No cell of these rows narrows 'for every input' (looked for: loops, veiled, ifaces, maps, wideKeys, modest, calm, conditions, laid).
  DERIVED. THE GIVEN ROWS OF THIS SEAT. 5 by the template 'for every input the law returns true; each argument reads behind the call as it read before'; 0 by the template 'total and deterministic' (their statements: YtmlhgfmbaebcaaaTotals.lean).
  GIVEN WITH THE SEED: the statements are not yours to turn. If you find one false, say at which input.
  Laid BY PROGRAM, IN A SANDBOX (cutbox-rows.mjs): the forced cells as the released guide's own fill.sh prints them over the translation 527b42933383b9f4… (all of the seat's roots in one cut). By AI agents, Wed Nov 11 2026. No macro, syntax, notation, axiom, sorry.
-/
import Derived.Test.YtmlhgfmbaebcaaaChecked
import GoSem.Claim
import GoSem.ClaimJoined
import GoSem.ClaimMapViews
import Derived.JoinedTies
import Derived.KernelRfl
namespace Go.Proofs.Ytmlhgfmbaebcaaa
/- THE CELL 'sum', in the pinned program and in every row, IS THE sha256 OF THE DUMP (.gsa) THAT YtmlhgfmbaebcaaaProg.lean LOADS. Nothing in Lean hashes anything: it is a label: what it is worth is what the hold of that sum in a sandbox is worth. -/
noncomputable def Try.pinned : Pinned := { name := "ytmlhgfmbaebcaaa", sum := "527b42933383b9f462f2d1d0b61fb8169fa44d746ae20e6679131fb955b9c718", checked := Try.checked }
namespace Rows
def none {H : Type} : Left H := { results := [], args := [] }

/-- 'n011_162.FnPnpStatusIsErrorDownward': WHATEVER THE INPUT: true; the input reads as it did. -/
def fnPnpStatusIsErrorDownwardSpec : ChangeSpec := { name := "fnPnpStatusIsErrorDownward", fn := fun _ => fun
  | [d1, d2] => { results := [.lit (.bool true)], args := [d1, d2] }
  | _ => none }
def fnPnpStatusIsErrorDownwardRow : OpenClaim := { program := "ytmlhgfmbaebcaaa", sum := "527b42933383b9f462f2d1d0b61fb8169fa44d746ae20e6679131fb955b9c718", func := "github.com/evanw/esbuild/n011_162.FnPnpStatusIsErrorDownward", spec := "fnPnpStatusIsErrorDownward", apart := false }
def FnPnpStatusIsErrorDownwardSaid : Prop := fnPnpStatusIsErrorDownwardRow.holds Try.pinned (OpenSpec.ofChange fnPnpStatusIsErrorDownwardSpec)

/-- ITS FALSE NEIGHBOUR: 'it returns false'. Refute it at one input. -/
def fnPnpStatusIsErrorDownwardWrong : ChangeSpec := { name := "fnPnpStatusIsErrorDownward", fn := fun _ => fun
  | [d1, d2] => { results := [.lit (.bool false)], args := [d1, d2] }
  | _ => none }
def FnPnpStatusIsErrorDownwardWrongFalsely : Prop := fnPnpStatusIsErrorDownwardRow.holds Try.pinned (OpenSpec.ofChange fnPnpStatusIsErrorDownwardWrong)

/-- 'n011_98.FnIsUndefinedExactlyBelowNull': WHATEVER THE INPUT: true; the input reads as it did. -/
def fnIsUndefinedExactlyBelowNullSpec : ChangeSpec := { name := "fnIsUndefinedExactlyBelowNull", fn := fun _ => fun
  | [d] => { results := [.lit (.bool true)], args := [d] }
  | _ => none }
def fnIsUndefinedExactlyBelowNullRow : OpenClaim := { program := "ytmlhgfmbaebcaaa", sum := "527b42933383b9f462f2d1d0b61fb8169fa44d746ae20e6679131fb955b9c718", func := "github.com/evanw/esbuild/n011_98.FnIsUndefinedExactlyBelowNull", spec := "fnIsUndefinedExactlyBelowNull", apart := false }
def FnIsUndefinedExactlyBelowNullSaid : Prop := fnIsUndefinedExactlyBelowNullRow.holds Try.pinned (OpenSpec.ofChange fnIsUndefinedExactlyBelowNullSpec)

/-- ITS FALSE NEIGHBOUR: 'it returns false'. Refute it at one input. -/
def fnIsUndefinedExactlyBelowNullWrong : ChangeSpec := { name := "fnIsUndefinedExactlyBelowNull", fn := fun _ => fun
  | [d] => { results := [.lit (.bool false)], args := [d] }
  | _ => none }
def FnIsUndefinedExactlyBelowNullWrongFalsely : Prop := fnIsUndefinedExactlyBelowNullRow.holds Try.pinned (OpenSpec.ofChange fnIsUndefinedExactlyBelowNullWrong)

/-- 'n011_95.FnLegalCommentsExplicitDistinctBundleFree': WHATEVER THE INPUT: true; the input reads as it did. -/
def fnLegalCommentsExplicitDistinctBundleFreeSpec : ChangeSpec := { name := "fnLegalCommentsExplicitDistinctBundleFree", fn := fun _ => fun
  | [d1, d2, d3] => { results := [.lit (.bool true)], args := [d1, d2, d3] }
  | _ => none }
def fnLegalCommentsExplicitDistinctBundleFreeRow : OpenClaim := { program := "ytmlhgfmbaebcaaa", sum := "527b42933383b9f462f2d1d0b61fb8169fa44d746ae20e6679131fb955b9c718", func := "github.com/evanw/esbuild/n011_95.FnLegalCommentsExplicitDistinctBundleFree", spec := "fnLegalCommentsExplicitDistinctBundleFree", apart := false }
def FnLegalCommentsExplicitDistinctBundleFreeSaid : Prop := fnLegalCommentsExplicitDistinctBundleFreeRow.holds Try.pinned (OpenSpec.ofChange fnLegalCommentsExplicitDistinctBundleFreeSpec)

/-- ITS FALSE NEIGHBOUR: 'it returns false'. Refute it at one input. -/
def fnLegalCommentsExplicitDistinctBundleFreeWrong : ChangeSpec := { name := "fnLegalCommentsExplicitDistinctBundleFree", fn := fun _ => fun
  | [d1, d2, d3] => { results := [.lit (.bool false)], args := [d1, d2, d3] }
  | _ => none }
def FnLegalCommentsExplicitDistinctBundleFreeWrongFalsely : Prop := fnLegalCommentsExplicitDistinctBundleFreeRow.holds Try.pinned (OpenSpec.ofChange fnLegalCommentsExplicitDistinctBundleFreeWrong)

/-- 'n011_243.FnIsValidExtensionCaseTable': WHATEVER THE INPUT: true; the input reads as it did. -/
def fnIsValidExtensionCaseTableSpec : ChangeSpec := { name := "fnIsValidExtensionCaseTable", fn := fun _ => fun
  | [d1, d2, d3] => { results := [.lit (.bool true)], args := [d1, d2, d3] }
  | _ => none }
def fnIsValidExtensionCaseTableRow : OpenClaim := { program := "ytmlhgfmbaebcaaa", sum := "527b42933383b9f462f2d1d0b61fb8169fa44d746ae20e6679131fb955b9c718", func := "github.com/evanw/esbuild/n011_243.FnIsValidExtensionCaseTable", spec := "fnIsValidExtensionCaseTable", apart := false }
def FnIsValidExtensionCaseTableSaid : Prop := fnIsValidExtensionCaseTableRow.holds Try.pinned (OpenSpec.ofChange fnIsValidExtensionCaseTableSpec)

/-- ITS FALSE NEIGHBOUR: 'it returns false'. Refute it at one input. -/
def fnIsValidExtensionCaseTableWrong : ChangeSpec := { name := "fnIsValidExtensionCaseTable", fn := fun _ => fun
  | [d1, d2, d3] => { results := [.lit (.bool false)], args := [d1, d2, d3] }
  | _ => none }
def FnIsValidExtensionCaseTableWrongFalsely : Prop := fnIsValidExtensionCaseTableRow.holds Try.pinned (OpenSpec.ofChange fnIsValidExtensionCaseTableWrong)

/-- 'n011_289.FnIsPackagePathFirstSegmentModel': WHATEVER THE INPUT: true; the input reads as it did. -/
def fnIsPackagePathFirstSegmentModelSpec : ChangeSpec := { name := "fnIsPackagePathFirstSegmentModel", fn := fun _ => fun
  | [d] => { results := [.lit (.bool true)], args := [d] }
  | _ => none }
def fnIsPackagePathFirstSegmentModelRow : OpenClaim := { program := "ytmlhgfmbaebcaaa", sum := "527b42933383b9f462f2d1d0b61fb8169fa44d746ae20e6679131fb955b9c718", func := "github.com/evanw/esbuild/n011_289.FnIsPackagePathFirstSegmentModel", spec := "fnIsPackagePathFirstSegmentModel", apart := false }
def FnIsPackagePathFirstSegmentModelSaid : Prop := fnIsPackagePathFirstSegmentModelRow.holds Try.pinned (OpenSpec.ofChange fnIsPackagePathFirstSegmentModelSpec)

/-- ITS FALSE NEIGHBOUR: 'it returns false'. Refute it at one input. -/
def fnIsPackagePathFirstSegmentModelWrong : ChangeSpec := { name := "fnIsPackagePathFirstSegmentModel", fn := fun _ => fun
  | [d] => { results := [.lit (.bool false)], args := [d] }
  | _ => none }
def FnIsPackagePathFirstSegmentModelWrongFalsely : Prop := fnIsPackagePathFirstSegmentModelRow.holds Try.pinned (OpenSpec.ofChange fnIsPackagePathFirstSegmentModelWrong)

/- THE SECOND FORM. 'bulk': how many values and letters a reading holds, each counted each time it is reached (what is shared counts as often as it is met; a slice's spare places count too). A statement '..UptoSaid' is the law's where the arguments, and the package variables that the reading takes, are together of bulk at most 1048576: NARROWER than '..Said'. Prove '..Said' where nothing that the law and all that it calls make is longer than what came in: it says more and counts as full. Else prove '..UptoSaid'. A law counts once. -/
mutual
def uptoBulk {H : Type} : DataW H → Nat
  | .lit (.string bytes) => bytes.length + 1
  | .lit _ => 1
  | .nil => 1
  | .ptr d => uptoBulk d + 1
  | .slice elems spare => uptoBulkAll elems + uptoBulkAll spare + 1
  | .agg parts => uptoBulkAll parts + 1
  | .iface _ d => uptoBulk d + 1
  | .map entries => uptoBulkEntries entries + 1
  | .held _ => 1
def uptoBulkAll {H : Type} : List (DataW H) → Nat
  | [] => 0
  | d :: r => uptoBulk d + uptoBulkAll r
def uptoBulkEntries {H : Type} : List (Lit × DataW H) → Nat
  | [] => 0
  | x :: r => uptoBulkEntry x + uptoBulkEntries r
def uptoBulkEntry {H : Type} : Lit × DataW H → Nat
  | (.string bytes, d) => bytes.length + uptoBulk d + 1
  | (_, d) => uptoBulk d + 1
 end
def uptoSmall : (H : Type) → List (DataW H) → Bool := fun _ ds => decide (uptoBulkAll ds ≤ 1048576)
def OpenSpec.upto (s : _root_.Go.ChangeSpec) : _root_.Go.OpenSpec := { _root_.Go.OpenSpec.ofChange s with cond := some uptoSmall }

/-- 'n011_162.FnPnpStatusIsErrorDownward', WHERE WHAT IT READS IS OF BULK AT MOST 1048576: true; the input reads as it did. -/
def fnPnpStatusIsErrorDownwardUptoRow : OpenClaim := { program := "ytmlhgfmbaebcaaa", sum := "527b42933383b9f462f2d1d0b61fb8169fa44d746ae20e6679131fb955b9c718", func := "github.com/evanw/esbuild/n011_162.FnPnpStatusIsErrorDownward", spec := "fnPnpStatusIsErrorDownward", apart := false, narrowed := true }
def FnPnpStatusIsErrorDownwardUptoSaid : Prop := fnPnpStatusIsErrorDownwardUptoRow.holds Try.pinned (OpenSpec.upto fnPnpStatusIsErrorDownwardSpec)

/-- 'n011_98.FnIsUndefinedExactlyBelowNull', WHERE WHAT IT READS IS OF BULK AT MOST 1048576: true; the input reads as it did. -/
def fnIsUndefinedExactlyBelowNullUptoRow : OpenClaim := { program := "ytmlhgfmbaebcaaa", sum := "527b42933383b9f462f2d1d0b61fb8169fa44d746ae20e6679131fb955b9c718", func := "github.com/evanw/esbuild/n011_98.FnIsUndefinedExactlyBelowNull", spec := "fnIsUndefinedExactlyBelowNull", apart := false, narrowed := true }
def FnIsUndefinedExactlyBelowNullUptoSaid : Prop := fnIsUndefinedExactlyBelowNullUptoRow.holds Try.pinned (OpenSpec.upto fnIsUndefinedExactlyBelowNullSpec)

/-- 'n011_95.FnLegalCommentsExplicitDistinctBundleFree', WHERE WHAT IT READS IS OF BULK AT MOST 1048576: true; the input reads as it did. -/
def fnLegalCommentsExplicitDistinctBundleFreeUptoRow : OpenClaim := { program := "ytmlhgfmbaebcaaa", sum := "527b42933383b9f462f2d1d0b61fb8169fa44d746ae20e6679131fb955b9c718", func := "github.com/evanw/esbuild/n011_95.FnLegalCommentsExplicitDistinctBundleFree", spec := "fnLegalCommentsExplicitDistinctBundleFree", apart := false, narrowed := true }
def FnLegalCommentsExplicitDistinctBundleFreeUptoSaid : Prop := fnLegalCommentsExplicitDistinctBundleFreeUptoRow.holds Try.pinned (OpenSpec.upto fnLegalCommentsExplicitDistinctBundleFreeSpec)

/-- 'n011_243.FnIsValidExtensionCaseTable', WHERE WHAT IT READS IS OF BULK AT MOST 1048576: true; the input reads as it did. -/
def fnIsValidExtensionCaseTableUptoRow : OpenClaim := { program := "ytmlhgfmbaebcaaa", sum := "527b42933383b9f462f2d1d0b61fb8169fa44d746ae20e6679131fb955b9c718", func := "github.com/evanw/esbuild/n011_243.FnIsValidExtensionCaseTable", spec := "fnIsValidExtensionCaseTable", apart := false, narrowed := true }
def FnIsValidExtensionCaseTableUptoSaid : Prop := fnIsValidExtensionCaseTableUptoRow.holds Try.pinned (OpenSpec.upto fnIsValidExtensionCaseTableSpec)

/-- 'n011_289.FnIsPackagePathFirstSegmentModel', WHERE WHAT IT READS IS OF BULK AT MOST 1048576: true; the input reads as it did. -/
def fnIsPackagePathFirstSegmentModelUptoRow : OpenClaim := { program := "ytmlhgfmbaebcaaa", sum := "527b42933383b9f462f2d1d0b61fb8169fa44d746ae20e6679131fb955b9c718", func := "github.com/evanw/esbuild/n011_289.FnIsPackagePathFirstSegmentModel", spec := "fnIsPackagePathFirstSegmentModel", apart := false, narrowed := true }
def FnIsPackagePathFirstSegmentModelUptoSaid : Prop := fnIsPackagePathFirstSegmentModelUptoRow.holds Try.pinned (OpenSpec.upto fnIsPackagePathFirstSegmentModelSpec)

end Rows
end Go.Proofs.Ytmlhgfmbaebcaaa
