/-
  No cell of these rows narrows 'for every input' (looked for: loops, veiled, ifaces, maps, wideKeys, modest, calm, conditions, laid).
  DERIVED. THE GIVEN ROWS OF THIS SEAT. 2 by the template 'for every input the law returns true; each argument reads behind the call as it read before'; 0 by the template 'total and deterministic' (their statements: YtidigkkkdaeblaaTotals.lean).
  GIVEN WITH THE SEED: the statements are not yours to turn. If you find one false, say at which input.
  Laid BY PROGRAM, IN A SANDBOX (cutbox-rows.mjs): the forced cells as the released guide's own fill.sh prints them over the translation 1e7c0379e1144ff8… (all of the seat's roots in one cut). By AI agents, Wed Nov 11 2026. No macro, syntax, notation, axiom, sorry.
-/
import Derived.Test.YtidigkkkdaeblaaChecked
import GoSem.Claim
import GoSem.ClaimJoined
import GoSem.ClaimMapViews
import Derived.JoinedTies
import Derived.KernelRfl
namespace Go.Proofs.Ytidigkkkdaeblaa
/- THE CELL 'sum', in the pinned program and in every row, IS THE sha256 OF THE DUMP (.gsa) THAT YtidigkkkdaeblaaProg.lean LOADS. Nothing in Lean hashes anything: it is a label: what it is worth is what the hold of that sum in a sandbox is worth. -/
noncomputable def Try.pinned : Pinned := { name := "ytidigkkkdaeblaa", sum := "1e7c0379e1144ff8f751d9388a95db84bbc9a68b2a76b52e6c620e961e1b6d1a", checked := Try.checked }
namespace Rows
def none {H : Type} : Left H := { results := [], args := [] }

/-- 'n011_147.FnTSAlwaysStrictOrStrictAfterExtends': WHATEVER THE INPUT: true; the input reads as it did. -/
def fnTSAlwaysStrictOrStrictAfterExtendsSpec : ChangeSpec := { name := "fnTSAlwaysStrictOrStrictAfterExtends", fn := fun _ => fun
  | [d1, d2] => { results := [.lit (.bool true)], args := [d1, d2] }
  | _ => none }
def fnTSAlwaysStrictOrStrictAfterExtendsRow : OpenClaim := { program := "ytidigkkkdaeblaa", sum := "1e7c0379e1144ff8f751d9388a95db84bbc9a68b2a76b52e6c620e961e1b6d1a", func := "github.com/evanw/esbuild/n011_147.FnTSAlwaysStrictOrStrictAfterExtends", spec := "fnTSAlwaysStrictOrStrictAfterExtends", apart := false }
def FnTSAlwaysStrictOrStrictAfterExtendsSaid : Prop := fnTSAlwaysStrictOrStrictAfterExtendsRow.holds Try.pinned (OpenSpec.ofChange fnTSAlwaysStrictOrStrictAfterExtendsSpec)

/-- ITS FALSE NEIGHBOUR: 'it returns false'. Refute it at one input. -/
def fnTSAlwaysStrictOrStrictAfterExtendsWrong : ChangeSpec := { name := "fnTSAlwaysStrictOrStrictAfterExtends", fn := fun _ => fun
  | [d1, d2] => { results := [.lit (.bool false)], args := [d1, d2] }
  | _ => none }
def FnTSAlwaysStrictOrStrictAfterExtendsWrongFalsely : Prop := fnTSAlwaysStrictOrStrictAfterExtendsRow.holds Try.pinned (OpenSpec.ofChange fnTSAlwaysStrictOrStrictAfterExtendsWrong)

/-- 'n011_147.FnApplyExtendedConfigLastBaseWinsIdempotent': WHATEVER THE INPUT: true; the input reads as it did. -/
def fnApplyExtendedConfigLastBaseWinsIdempotentSpec : ChangeSpec := { name := "fnApplyExtendedConfigLastBaseWinsIdempotent", fn := fun _ => fun
  | [d1, d2, d3, d4, d5, d6] => { results := [.lit (.bool true)], args := [d1, d2, d3, d4, d5, d6] }
  | _ => none }
def fnApplyExtendedConfigLastBaseWinsIdempotentRow : OpenClaim := { program := "ytidigkkkdaeblaa", sum := "1e7c0379e1144ff8f751d9388a95db84bbc9a68b2a76b52e6c620e961e1b6d1a", func := "github.com/evanw/esbuild/n011_147.FnApplyExtendedConfigLastBaseWinsIdempotent", spec := "fnApplyExtendedConfigLastBaseWinsIdempotent", apart := false }
def FnApplyExtendedConfigLastBaseWinsIdempotentSaid : Prop := fnApplyExtendedConfigLastBaseWinsIdempotentRow.holds Try.pinned (OpenSpec.ofChange fnApplyExtendedConfigLastBaseWinsIdempotentSpec)

/-- ITS FALSE NEIGHBOUR: 'it returns false'. Refute it at one input. -/
def fnApplyExtendedConfigLastBaseWinsIdempotentWrong : ChangeSpec := { name := "fnApplyExtendedConfigLastBaseWinsIdempotent", fn := fun _ => fun
  | [d1, d2, d3, d4, d5, d6] => { results := [.lit (.bool false)], args := [d1, d2, d3, d4, d5, d6] }
  | _ => none }
def FnApplyExtendedConfigLastBaseWinsIdempotentWrongFalsely : Prop := fnApplyExtendedConfigLastBaseWinsIdempotentRow.holds Try.pinned (OpenSpec.ofChange fnApplyExtendedConfigLastBaseWinsIdempotentWrong)

/- THE SECOND FORM. 'bulk': how many values and letters a reading holds, each counted each time it is reached (what is shared counts as often as it is met; a slice's spare places count too). A statement '..UptoSaid' is the law's where the arguments, and the package variables that the reading takes, are together of bulk at most 1048576: NARROWER than '..Said'. Prove '..Said' where nothing that the law and all that it calls make is longer than what came in: it says more and counts as full. Else prove '..UptoSaid'. A law counts once. -/
mutual
def uptoBulk {H : Type} : DataW H → Nat
  | .lit (.string bytes) => bytes.length + 1
  | .lit _ => 1
  | .nil => 1
  | .ptr d => uptoBulk d + 1
  | .slice elems spare => uptoBulkAll elems + uptoBulkAll spare + 1
  | .agg parts => uptoBulkAll parts + 1
  | .iface _ d => uptoBulk d + 1
  | .map entries => uptoBulkEntries entries + 1
  | .held _ => 1
def uptoBulkAll {H : Type} : List (DataW H) → Nat
  | [] => 0
  | d :: r => uptoBulk d + uptoBulkAll r
def uptoBulkEntries {H : Type} : List (Lit × DataW H) → Nat
  | [] => 0
  | x :: r => uptoBulkEntry x + uptoBulkEntries r
def uptoBulkEntry {H : Type} : Lit × DataW H → Nat
  | (.string bytes, d) => bytes.length + uptoBulk d + 1
  | (_, d) => uptoBulk d + 1
 end
def uptoSmall : (H : Type) → List (DataW H) → Bool := fun _ ds => decide (uptoBulkAll ds ≤ 1048576)
def OpenSpec.upto (s : _root_.Go.ChangeSpec) : _root_.Go.OpenSpec := { _root_.Go.OpenSpec.ofChange s with cond := some uptoSmall }

/-- 'n011_147.FnTSAlwaysStrictOrStrictAfterExtends', WHERE WHAT IT READS IS OF BULK AT MOST 1048576: true; the input reads as it did. -/
def fnTSAlwaysStrictOrStrictAfterExtendsUptoRow : OpenClaim := { program := "ytidigkkkdaeblaa", sum := "1e7c0379e1144ff8f751d9388a95db84bbc9a68b2a76b52e6c620e961e1b6d1a", func := "github.com/evanw/esbuild/n011_147.FnTSAlwaysStrictOrStrictAfterExtends", spec := "fnTSAlwaysStrictOrStrictAfterExtends", apart := false, narrowed := true }
def FnTSAlwaysStrictOrStrictAfterExtendsUptoSaid : Prop := fnTSAlwaysStrictOrStrictAfterExtendsUptoRow.holds Try.pinned (OpenSpec.upto fnTSAlwaysStrictOrStrictAfterExtendsSpec)

/-- 'n011_147.FnApplyExtendedConfigLastBaseWinsIdempotent', WHERE WHAT IT READS IS OF BULK AT MOST 1048576: true; the input reads as it did. -/
def fnApplyExtendedConfigLastBaseWinsIdempotentUptoRow : OpenClaim := { program := "ytidigkkkdaeblaa", sum := "1e7c0379e1144ff8f751d9388a95db84bbc9a68b2a76b52e6c620e961e1b6d1a", func := "github.com/evanw/esbuild/n011_147.FnApplyExtendedConfigLastBaseWinsIdempotent", spec := "fnApplyExtendedConfigLastBaseWinsIdempotent", apart := false, narrowed := true }
def FnApplyExtendedConfigLastBaseWinsIdempotentUptoSaid : Prop := fnApplyExtendedConfigLastBaseWinsIdempotentUptoRow.holds Try.pinned (OpenSpec.upto fnApplyExtendedConfigLastBaseWinsIdempotentSpec)

end Rows
end Go.Proofs.Ytidigkkkdaeblaa
