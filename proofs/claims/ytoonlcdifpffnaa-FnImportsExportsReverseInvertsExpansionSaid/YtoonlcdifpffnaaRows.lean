/-
  No cell of these rows narrows 'for every input' (looked for: loops, veiled, ifaces, maps, wideKeys, modest, calm, conditions, laid).
  DERIVED. THE GIVEN ROWS OF THIS SEAT. 2 by the template 'for every input the law returns true; each argument reads behind the call as it read before'; 0 by the template 'total and deterministic' (their statements: YtoonlcdifpffnaaTotals.lean).
  GIVEN WITH THE SEED: the statements are not yours to turn. If you find one false, say at which input.
  Laid BY PROGRAM, IN A SANDBOX (cutbox-rows.mjs): the forced cells as the released guide's own fill.sh prints them over the translation c1d06cf39a677219… (all of the seat's roots in one cut). By AI agents, Wed Nov 11 2026. No macro, syntax, notation, axiom, sorry.
-/
import Derived.Test.YtoonlcdifpffnaaChecked
import GoSem.Claim
import GoSem.ClaimJoined
import GoSem.ClaimMapViews
import Derived.JoinedTies
import Derived.KernelRfl
namespace Go.Proofs.Ytoonlcdifpffnaa
/- THE CELL 'sum', in the pinned program and in every row, IS THE sha256 OF THE DUMP (.gsa) THAT YtoonlcdifpffnaaProg.lean LOADS. Nothing in Lean hashes anything: it is a label: what it is worth is what the hold of that sum in a sandbox is worth. -/
noncomputable def Try.pinned : Pinned := { name := "ytoonlcdifpffnaa", sum := "c1d06cf39a677219f1291414980f0ecdba05e6469f7ba7c0e3998f5a24b43366", checked := Try.checked }
namespace Rows
def none {H : Type} : Left H := { results := [], args := [] }

/-- 'n011_78.FnImportsExportsReverseModel': WHATEVER THE INPUT: true; the input reads as it did. -/
def fnImportsExportsReverseModelSpec : ChangeSpec := { name := "fnImportsExportsReverseModel", fn := fun _ => fun
  | [d1, d2, d3] => { results := [.lit (.bool true)], args := [d1, d2, d3] }
  | _ => none }
def fnImportsExportsReverseModelRow : OpenClaim := { program := "ytoonlcdifpffnaa", sum := "c1d06cf39a677219f1291414980f0ecdba05e6469f7ba7c0e3998f5a24b43366", func := "github.com/evanw/esbuild/n011_78.FnImportsExportsReverseModel", spec := "fnImportsExportsReverseModel", inPlace := ["internal/bytealg.IndexByteString", "internal/bytealg.IndexString"], recurses := true, named := ["internal/bytealg.MaxLen"], plainKeys := false, apart := false }
def FnImportsExportsReverseModelSaid : Prop := fnImportsExportsReverseModelRow.holds Try.pinned (OpenSpec.ofChange fnImportsExportsReverseModelSpec)

/-- ITS FALSE NEIGHBOUR: 'it returns false'. Refute it at one input. -/
def fnImportsExportsReverseModelWrong : ChangeSpec := { name := "fnImportsExportsReverseModel", fn := fun _ => fun
  | [d1, d2, d3] => { results := [.lit (.bool false)], args := [d1, d2, d3] }
  | _ => none }
def FnImportsExportsReverseModelWrongFalsely : Prop := fnImportsExportsReverseModelRow.holds Try.pinned (OpenSpec.ofChange fnImportsExportsReverseModelWrong)

/-- 'n011_78.FnImportsExportsReverseInvertsExpansion': WHATEVER THE INPUT: true; the input reads as it did. -/
def fnImportsExportsReverseInvertsExpansionSpec : ChangeSpec := { name := "fnImportsExportsReverseInvertsExpansion", fn := fun _ => fun
  | [d1, d2, d3, d4, d5, d6, d7] => { results := [.lit (.bool true)], args := [d1, d2, d3, d4, d5, d6, d7] }
  | _ => none }
def fnImportsExportsReverseInvertsExpansionRow : OpenClaim := { program := "ytoonlcdifpffnaa", sum := "c1d06cf39a677219f1291414980f0ecdba05e6469f7ba7c0e3998f5a24b43366", func := "github.com/evanw/esbuild/n011_78.FnImportsExportsReverseInvertsExpansion", spec := "fnImportsExportsReverseInvertsExpansion", inPlace := ["internal/bytealg.IndexByteString", "internal/bytealg.IndexString"], recurses := true, named := ["internal/bytealg.MaxLen"], plainKeys := false, apart := false }
def FnImportsExportsReverseInvertsExpansionSaid : Prop := fnImportsExportsReverseInvertsExpansionRow.holds Try.pinned (OpenSpec.ofChange fnImportsExportsReverseInvertsExpansionSpec)

/-- ITS FALSE NEIGHBOUR: 'it returns false'. Refute it at one input. -/
def fnImportsExportsReverseInvertsExpansionWrong : ChangeSpec := { name := "fnImportsExportsReverseInvertsExpansion", fn := fun _ => fun
  | [d1, d2, d3, d4, d5, d6, d7] => { results := [.lit (.bool false)], args := [d1, d2, d3, d4, d5, d6, d7] }
  | _ => none }
def FnImportsExportsReverseInvertsExpansionWrongFalsely : Prop := fnImportsExportsReverseInvertsExpansionRow.holds Try.pinned (OpenSpec.ofChange fnImportsExportsReverseInvertsExpansionWrong)

/- THE SECOND FORM. 'bulk': how many values and letters a reading holds, each counted each time it is reached (what is shared counts as often as it is met; a slice's spare places count too). A statement '..UptoSaid' is the law's where the arguments, and the package variables that the reading takes, are together of bulk at most 1048576: NARROWER than '..Said'. Prove '..Said' where nothing that the law and all that it calls make is longer than what came in: it says more and counts as full. Else prove '..UptoSaid'. A law counts once. -/
mutual
def uptoBulk {H : Type} : DataW H → Nat
  | .lit (.string bytes) => bytes.length + 1
  | .lit _ => 1
  | .nil => 1
  | .ptr d => uptoBulk d + 1
  | .slice elems spare => uptoBulkAll elems + uptoBulkAll spare + 1
  | .agg parts => uptoBulkAll parts + 1
  | .iface _ d => uptoBulk d + 1
  | .map entries => uptoBulkEntries entries + 1
  | .held _ => 1
def uptoBulkAll {H : Type} : List (DataW H) → Nat
  | [] => 0
  | d :: r => uptoBulk d + uptoBulkAll r
def uptoBulkEntries {H : Type} : List (Lit × DataW H) → Nat
  | [] => 0
  | x :: r => uptoBulkEntry x + uptoBulkEntries r
def uptoBulkEntry {H : Type} : Lit × DataW H → Nat
  | (.string bytes, d) => bytes.length + uptoBulk d + 1
  | (_, d) => uptoBulk d + 1
 end
def uptoSmall : (H : Type) → List (DataW H) → Bool := fun _ ds => decide (uptoBulkAll ds ≤ 1048576)
def OpenSpec.upto (s : _root_.Go.ChangeSpec) : _root_.Go.OpenSpec := { _root_.Go.OpenSpec.ofChange s with cond := some uptoSmall }

/-- 'n011_78.FnImportsExportsReverseModel', WHERE WHAT IT READS IS OF BULK AT MOST 1048576: true; the input reads as it did. -/
def fnImportsExportsReverseModelUptoRow : OpenClaim := { program := "ytoonlcdifpffnaa", sum := "c1d06cf39a677219f1291414980f0ecdba05e6469f7ba7c0e3998f5a24b43366", func := "github.com/evanw/esbuild/n011_78.FnImportsExportsReverseModel", spec := "fnImportsExportsReverseModel", inPlace := ["internal/bytealg.IndexByteString", "internal/bytealg.IndexString"], recurses := true, named := ["internal/bytealg.MaxLen"], plainKeys := false, apart := false, narrowed := true }
def FnImportsExportsReverseModelUptoSaid : Prop := fnImportsExportsReverseModelUptoRow.holds Try.pinned (OpenSpec.upto fnImportsExportsReverseModelSpec)

/-- 'n011_78.FnImportsExportsReverseInvertsExpansion', WHERE WHAT IT READS IS OF BULK AT MOST 1048576: true; the input reads as it did. -/
def fnImportsExportsReverseInvertsExpansionUptoRow : OpenClaim := { program := "ytoonlcdifpffnaa", sum := "c1d06cf39a677219f1291414980f0ecdba05e6469f7ba7c0e3998f5a24b43366", func := "github.com/evanw/esbuild/n011_78.FnImportsExportsReverseInvertsExpansion", spec := "fnImportsExportsReverseInvertsExpansion", inPlace := ["internal/bytealg.IndexByteString", "internal/bytealg.IndexString"], recurses := true, named := ["internal/bytealg.MaxLen"], plainKeys := false, apart := false, narrowed := true }
def FnImportsExportsReverseInvertsExpansionUptoSaid : Prop := fnImportsExportsReverseInvertsExpansionUptoRow.holds Try.pinned (OpenSpec.upto fnImportsExportsReverseInvertsExpansionSpec)

end Rows
end Go.Proofs.Ytoonlcdifpffnaa
