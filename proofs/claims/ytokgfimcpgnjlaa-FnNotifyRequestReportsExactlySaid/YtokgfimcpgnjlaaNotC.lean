/- The hook and its call, the recorder: by their contracts. Conditions: bounds of the duration. -/
import Derived.Test.YtokgfimcpgnjlaaNotA
import Derived.Test.YtokgfimcpgnjlaaNotB
import Derived.Laws.MakeOwn
import Derived.Deep.QuietTactic
import Derived.BigQuiet
import Derived.Deep.RegionHeld3
import Derived.Deep.RegionWith
import Derived.Deep.OwnRows
namespace Go.Proofs.Ytokgfimcpgnjlaa.NotC
open Go.RowKit Go.Deep Go.Proofs.Ytokgfimcpgnjlaa.Base
set_option linter.unusedVariables false
def fiv (v0 v1 v2 v3 v4 : Value) : Nat → Value
  | 0 => v0
  | 1 => v1
  | 2 => v2
  | 3 => v3
  | _ => v4
theorem five_row (w : World) (B t : Nat) (f : Nat → Value) (v0 v1 v2 v3 v4 : Value) (h : w.rowIs B t 5 f) : (((((w.setCell ⟨B, 0, none⟩ v0).setCell ⟨B, 1, none⟩ v1).setCell ⟨B, 2, none⟩ v2).setCell ⟨B, 3, none⟩ v3).setCell ⟨B, 4, none⟩ v4).rowIs B t 5 (fiv v0 v1 v2 v3 v4) :=
  (((((h.set _ _).set _ _).set _ _).set _ _).set _ _).congr (fun i hi => by
    match i, hi with
    | 0, _ => rfl
    | 1, _ => rfl
    | 2, _ => rfl
    | 3, _ => rfl
    | 4, _ => rfl)
theorem five_far (w : World) (B b : Nat) (v0 v1 v2 v3 v4 : Value) (t n : Nat) (f : Nat → Value) (h : w.rowIs b t n f) (hne : b ≠ B) : (((((w.setCell ⟨B, 0, none⟩ v0).setCell ⟨B, 1, none⟩ v1).setCell ⟨B, 2, none⟩ v2).setCell ⟨B, 3, none⟩ v3).setCell ⟨B, 4, none⟩ v4).rowIs b t n f :=
  ((((h.setOther hne _).setOther hne _).setOther hne _).setOther hne _).setOther hne _
def one (v : Value) : Nat → Value := fun _ => v

set_option maxRecDepth 20000 in
theorem hook6 (a b c : ByteArray) (st ms : Int) (f : Nat → Value) (w : World) (bg bc : Nat) (hg : w.rowIs bg 24 5 f) (hc : w.rowIs bc 3 1 (one (.int .i64 0))) (hne : bg ≠ bc) :
    Calls Try.prog 6 #[.agg #[.string a, .string b, .string c, .int .i64 st, .int .i64 ms], .pointer (some ⟨bg,0,none⟩), .pointer (some ⟨bc, 0, none⟩)] w fun e w' => e = .returned (.tuple #[]) ∧ w'.rowIs bg 24 5 (fiv (.string a) (.string b) (.string c) (.int .i64 st) (.int .i64 ms)) ∧ w'.rowIs bc 3 1 (one (.int .i64 1)) ∧ (∀ x, x < w.heap.size → x ≠ bg → x ≠ bc → w'.heap[x]? = w.heap[x]?) ∧ (∀ B, B ≤ bg → B ≤ bc → Below B w w') := by
  have R0 := Lib.hid hg
  have C0 := Lib.hid hc
  have lg := hg.lt
  have lc := hc.lt
  have c0 := hg.cell (i := 0) (by omega); have f0 := hg.frozen 0; have c1 := hg.cell (i := 1) (by omega); have f1 := hg.frozen 1; have c2 := hg.cell (i := 2) (by omega); have f2 := hg.frozen 2; have c3 := hg.cell (i := 3) (by omega); have f3 := hg.frozen 3; have c4 := hg.cell (i := 4) (by omega); have f4 := hg.frozen 4;
  have d0 := hc.cell (i := 0) (by omega)
  have e0 := hc.frozen 0
  simp only [one] at d0
  clear hg hc
  go_enter Try.func6, Try.ntmps6
  go_wp2
  go_end0
  refine ⟨rfl, ((five_row _ bg 24 f (.string a) (.string b) (.string c) (.int .i64 st) (.int .i64 ms) R0.out).setOther (a := ⟨bc, 0, none⟩) hne (.int .i64 1)).alloc _, (((five_far _ bg bc (.string a) (.string b) (.string c) (.int .i64 st) (.int .i64 ms) 3 1 _ C0.out hne.symm).set 0 (.int .i64 1)).congr (fun i hi => by (have h : i = 0 := Nat.lt_one_iff.1 hi); subst h; rfl)).alloc _, fun x h h1 h2 => ?_, fun B h1 h2 => ?_⟩
  · rw [blk_alloc_lt _ _ _ (by simpa using h)]
    repeat rw [blk_setCell_other _ _ _ _ (by assumption)]
  · exact (((((((Below.refl _ _).setCell h1 _).setCell h1 _).setCell h1 _).setCell h1 _).setCell h1 _).setCell h2 _).alloc (by simp; omega) _
end Go.Proofs.Ytokgfimcpgnjlaa.NotC
