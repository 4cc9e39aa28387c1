/-
  No cell of these rows narrows 'for every input' (looked for: loops, veiled, ifaces, maps, wideKeys, modest, calm, conditions, laid).
  DERIVED. THE GIVEN ROWS OF THIS SEAT. 3 by the template 'for every input the law returns true; each argument reads behind the call as it read before'; 0 by the template 'total and deterministic' (their statements: YthenbnofpdjimaaTotals.lean).
  GIVEN WITH THE SEED: the statements are not yours to turn. If you find one false, say at which input.
  Laid BY PROGRAM, IN A SANDBOX (cutbox-rows.mjs): the forced cells as the released guide's own fill.sh prints them over the translation 4357883b2526e209… (all of the seat's roots in one cut). By AI agents, Wed Nov 11 2026. No macro, syntax, notation, axiom, sorry.
-/
import Derived.Test.YthenbnofpdjimaaChecked
import GoSem.Claim
import GoSem.ClaimJoined
import GoSem.ClaimMapViews
import Derived.JoinedTies
import Derived.KernelRfl
namespace Go.Proofs.Ythenbnofpdjimaa
/- THE CELL 'sum', in the pinned program and in every row, IS THE sha256 OF THE DUMP (.gsa) THAT YthenbnofpdjimaaProg.lean LOADS. Nothing in Lean hashes anything: it is a label: what it is worth is what the hold of that sum in a sandbox is worth. -/
noncomputable def Try.pinned : Pinned := { name := "ythenbnofpdjimaa", sum := "4357883b2526e209cba09956a4da5d62f0b4b4e00800e4196afe0ba5a5e5f952", checked := Try.checked }
namespace Rows
def none {H : Type} : Left H := { results := [], args := [] }

/-- 'n011_163.FnLessMatchesPatternKeyRank': WHATEVER THE INPUT: true; the input reads as it did. -/
def fnLessMatchesPatternKeyRankSpec : ChangeSpec := { name := "fnLessMatchesPatternKeyRank", fn := fun _ => fun
  | [d1, d2] => { results := [.lit (.bool true)], args := [d1, d2] }
  | _ => none }
def fnLessMatchesPatternKeyRankRow : OpenClaim := { program := "ythenbnofpdjimaa", sum := "4357883b2526e209cba09956a4da5d62f0b4b4e00800e4196afe0ba5a5e5f952", func := "github.com/evanw/esbuild/n011_163.FnLessMatchesPatternKeyRank", spec := "fnLessMatchesPatternKeyRank", inPlace := ["internal/bytealg.IndexByteString"], apart := false }
def FnLessMatchesPatternKeyRankSaid : Prop := fnLessMatchesPatternKeyRankRow.holds Try.pinned (OpenSpec.ofChange fnLessMatchesPatternKeyRankSpec)

/-- ITS FALSE NEIGHBOUR: 'it returns false'. Refute it at one input. -/
def fnLessMatchesPatternKeyRankWrong : ChangeSpec := { name := "fnLessMatchesPatternKeyRank", fn := fun _ => fun
  | [d1, d2] => { results := [.lit (.bool false)], args := [d1, d2] }
  | _ => none }
def FnLessMatchesPatternKeyRankWrongFalsely : Prop := fnLessMatchesPatternKeyRankRow.holds Try.pinned (OpenSpec.ofChange fnLessMatchesPatternKeyRankWrong)

/-- 'n011_163.FnSwapSymmetricAndInvolution': WHATEVER THE INPUT: true; the input reads as it did. -/
def fnSwapSymmetricAndInvolutionSpec : ChangeSpec := { name := "fnSwapSymmetricAndInvolution", fn := fun _ => fun
  | [d1, d2, d3] => { results := [.lit (.bool true)], args := [d1, d2, d3] }
  | _ => none }
def fnSwapSymmetricAndInvolutionRow : OpenClaim := { program := "ythenbnofpdjimaa", sum := "4357883b2526e209cba09956a4da5d62f0b4b4e00800e4196afe0ba5a5e5f952", func := "github.com/evanw/esbuild/n011_163.FnSwapSymmetricAndInvolution", spec := "fnSwapSymmetricAndInvolution", apart := false }
def FnSwapSymmetricAndInvolutionSaid : Prop := fnSwapSymmetricAndInvolutionRow.holds Try.pinned (OpenSpec.ofChange fnSwapSymmetricAndInvolutionSpec)

/-- ITS FALSE NEIGHBOUR: 'it returns false'. Refute it at one input. -/
def fnSwapSymmetricAndInvolutionWrong : ChangeSpec := { name := "fnSwapSymmetricAndInvolution", fn := fun _ => fun
  | [d1, d2, d3] => { results := [.lit (.bool false)], args := [d1, d2, d3] }
  | _ => none }
def FnSwapSymmetricAndInvolutionWrongFalsely : Prop := fnSwapSymmetricAndInvolutionRow.holds Try.pinned (OpenSpec.ofChange fnSwapSymmetricAndInvolutionWrong)

/-- 'n011_163.FnValueForKeyAppendKeepsEarlierAnswers': WHATEVER THE INPUT: true; the input reads as it did. -/
def fnValueForKeyAppendKeepsEarlierAnswersSpec : ChangeSpec := { name := "fnValueForKeyAppendKeepsEarlierAnswers", fn := fun _ => fun
  | [d1, d2, d3, d4, d5] => { results := [.lit (.bool true)], args := [d1, d2, d3, d4, d5] }
  | _ => none }
def fnValueForKeyAppendKeepsEarlierAnswersRow : OpenClaim := { program := "ythenbnofpdjimaa", sum := "4357883b2526e209cba09956a4da5d62f0b4b4e00800e4196afe0ba5a5e5f952", func := "github.com/evanw/esbuild/n011_163.FnValueForKeyAppendKeepsEarlierAnswers", spec := "fnValueForKeyAppendKeepsEarlierAnswers", apart := false }
def FnValueForKeyAppendKeepsEarlierAnswersSaid : Prop := fnValueForKeyAppendKeepsEarlierAnswersRow.holds Try.pinned (OpenSpec.ofChange fnValueForKeyAppendKeepsEarlierAnswersSpec)

/-- ITS FALSE NEIGHBOUR: 'it returns false'. Refute it at one input. -/
def fnValueForKeyAppendKeepsEarlierAnswersWrong : ChangeSpec := { name := "fnValueForKeyAppendKeepsEarlierAnswers", fn := fun _ => fun
  | [d1, d2, d3, d4, d5] => { results := [.lit (.bool false)], args := [d1, d2, d3, d4, d5] }
  | _ => none }
def FnValueForKeyAppendKeepsEarlierAnswersWrongFalsely : Prop := fnValueForKeyAppendKeepsEarlierAnswersRow.holds Try.pinned (OpenSpec.ofChange fnValueForKeyAppendKeepsEarlierAnswersWrong)

/- THE SECOND FORM. 'bulk': how many values and letters a reading holds, each counted each time it is reached (what is shared counts as often as it is met; a slice's spare places count too). A statement '..UptoSaid' is the law's where the arguments, and the package variables that the reading takes, are together of bulk at most 1048576: NARROWER than '..Said'. Prove '..Said' where nothing that the law and all that it calls make is longer than what came in: it says more and counts as full. Else prove '..UptoSaid'. A law counts once. -/
mutual
def uptoBulk {H : Type} : DataW H → Nat
  | .lit (.string bytes) => bytes.length + 1
  | .lit _ => 1
  | .nil => 1
  | .ptr d => uptoBulk d + 1
  | .slice elems spare => uptoBulkAll elems + uptoBulkAll spare + 1
  | .agg parts => uptoBulkAll parts + 1
  | .iface _ d => uptoBulk d + 1
  | .map entries => uptoBulkEntries entries + 1
  | .held _ => 1
def uptoBulkAll {H : Type} : List (DataW H) → Nat
  | [] => 0
  | d :: r => uptoBulk d + uptoBulkAll r
def uptoBulkEntries {H : Type} : List (Lit × DataW H) → Nat
  | [] => 0
  | x :: r => uptoBulkEntry x + uptoBulkEntries r
def uptoBulkEntry {H : Type} : Lit × DataW H → Nat
  | (.string bytes, d) => bytes.length + uptoBulk d + 1
  | (_, d) => uptoBulk d + 1
 end
def uptoSmall : (H : Type) → List (DataW H) → Bool := fun _ ds => decide (uptoBulkAll ds ≤ 1048576)
def OpenSpec.upto (s : _root_.Go.ChangeSpec) : _root_.Go.OpenSpec := { _root_.Go.OpenSpec.ofChange s with cond := some uptoSmall }

/-- 'n011_163.FnLessMatchesPatternKeyRank', WHERE WHAT IT READS IS OF BULK AT MOST 1048576: true; the input reads as it did. -/
def fnLessMatchesPatternKeyRankUptoRow : OpenClaim := { program := "ythenbnofpdjimaa", sum := "4357883b2526e209cba09956a4da5d62f0b4b4e00800e4196afe0ba5a5e5f952", func := "github.com/evanw/esbuild/n011_163.FnLessMatchesPatternKeyRank", spec := "fnLessMatchesPatternKeyRank", inPlace := ["internal/bytealg.IndexByteString"], apart := false, narrowed := true }
def FnLessMatchesPatternKeyRankUptoSaid : Prop := fnLessMatchesPatternKeyRankUptoRow.holds Try.pinned (OpenSpec.upto fnLessMatchesPatternKeyRankSpec)

/-- 'n011_163.FnSwapSymmetricAndInvolution', WHERE WHAT IT READS IS OF BULK AT MOST 1048576: true; the input reads as it did. -/
def fnSwapSymmetricAndInvolutionUptoRow : OpenClaim := { program := "ythenbnofpdjimaa", sum := "4357883b2526e209cba09956a4da5d62f0b4b4e00800e4196afe0ba5a5e5f952", func := "github.com/evanw/esbuild/n011_163.FnSwapSymmetricAndInvolution", spec := "fnSwapSymmetricAndInvolution", apart := false, narrowed := true }
def FnSwapSymmetricAndInvolutionUptoSaid : Prop := fnSwapSymmetricAndInvolutionUptoRow.holds Try.pinned (OpenSpec.upto fnSwapSymmetricAndInvolutionSpec)

/-- 'n011_163.FnValueForKeyAppendKeepsEarlierAnswers', WHERE WHAT IT READS IS OF BULK AT MOST 1048576: true; the input reads as it did. -/
def fnValueForKeyAppendKeepsEarlierAnswersUptoRow : OpenClaim := { program := "ythenbnofpdjimaa", sum := "4357883b2526e209cba09956a4da5d62f0b4b4e00800e4196afe0ba5a5e5f952", func := "github.com/evanw/esbuild/n011_163.FnValueForKeyAppendKeepsEarlierAnswers", spec := "fnValueForKeyAppendKeepsEarlierAnswers", apart := false, narrowed := true }
def FnValueForKeyAppendKeepsEarlierAnswersUptoSaid : Prop := fnValueForKeyAppendKeepsEarlierAnswersUptoRow.holds Try.pinned (OpenSpec.upto fnValueForKeyAppendKeepsEarlierAnswersSpec)

end Rows
end Go.Proofs.Ythenbnofpdjimaa
