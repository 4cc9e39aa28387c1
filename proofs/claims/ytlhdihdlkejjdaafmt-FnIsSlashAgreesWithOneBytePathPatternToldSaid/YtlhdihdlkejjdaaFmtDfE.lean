/- RangeOfString and MakeLineColumnTracker over an empty source; a call of fmt.Sprintf. -/
import Derived.Test.YtlhdihdlkejjdaaFmtDfD
import Derived.RegionTactic
import Derived.ChangeAlike
namespace Go.Proofs.YtlhdihdlkejjdaaFmt.DfE
open Go.RowKit Go.Deep Go.MuLone Go.Proofs.YtlhdihdlkejjdaaFmt.Base Go.Proofs.YtlhdihdlkejjdaaFmt.Sls Go.Proofs.YtlhdihdlkejjdaaFmt.DfA Go.Proofs.YtlhdihdlkejjdaaFmt.DfB Go.Proofs.YtlhdihdlkejjdaaFmt.DfC Go.Proofs.YtlhdihdlkejjdaaFmt.DfD
set_option linter.unusedVariables false
def duo (v0 v1 : Value) : Nat → Value
  | 0 => v0
  | _ => v1
theorem duo_row (w : World) (B t : Nat) (f : Nat → Value) (v0 v1 : Value) (h : w.rowIs B t 2 f) : ((w.setCell ⟨B, 0, none⟩ v0).setCell ⟨B, 1, none⟩ v1).rowIs B t 2 (duo v0 v1) :=
  ((h.set _ _).set _ _).congr (fun i hi => by
    match i, hi with
    | 0, _ => rfl
    | 1, _ => rfl)
theorem duo_far (w : World) (B b : Nat) (v0 v1 : Value) (hne : b ≠ B) : ((w.setCell ⟨B, 0, none⟩ v0).setCell ⟨B, 1, none⟩ v1).heap[b]? = w.heap[b]? := by
  repeat rw [blk_setCell_other _ _ _ _ (by exact hne)]
theorem duo_below (w : World) (B : Nat) (v0 v1 : Value) : Below B w ((w.setCell ⟨B, 0, none⟩ v0).setCell ⟨B, 1, none⟩ v1) :=
  ((Below.refl B w).setCell (Nat.le_refl _) _).setCell (Nat.le_refl _) _
theorem duo_alloc (v0 v1 : Value) (t : TypeId) (w : World) : (w.alloc (.cells #[v0, v1] t)).rowIs w.heap.size t 2 (duo v0 v1) :=
  World.rowIs_alloc w #[v0, v1] t _ (fun i hi => by
    match i, hi with
    | 0, _ => rfl
    | 1, _ => rfl)
/-- An empty source. -/
def src0 : Nat → Value
  | 8 => .int .u8 0
  | 9 => .int .u32 0
  | _ => .string { data := #[] }
set_option maxRecDepth 20000 in
theorem tracker14 (X : Nat) (w : World) (h : w.rowIs X 49 10 src0) : Calls Tryf.prog 14 #[ptr X] w fun e w' => e = .returned (.agg #[.string { data := #[] }, .string { data := #[] }, .string { data := #[] }, .int .i32 0, .int .i32 0, .int .i32 0, .int .i32 0, .bool true, .bool false, .bool true]) ∧ Below w.heap.size w w' := by
  have kX := h.lt
  have c0 := h.cell (i := 0) (by omega)
  have c1 := h.cell (i := 1) (by omega)
  have c2 := h.cell (i := 2) (by omega)
  have c3 := h.cell (i := 3) (by omega)
  have c4 := h.cell (i := 4) (by omega)
  have c5 := h.cell (i := 5) (by omega)
  have c6 := h.cell (i := 6) (by omega)
  have c7 := h.cell (i := 7) (by omega)
  simp only [src0] at c0 c1 c2 c3 c4 c5 c6 c7
  have hnp : ∀ wz : World, Sem.run Tryf.prog (binOp BinOp.eql 51 (.pointer (some ⟨X, 0, none⟩)) (.pointer none)) wz = .ok (.bool false) wz := fun wz => by kernel_rfl
  clear h
  unfold ptr
  go_enter Tryf.func14, Tryf.ntmps14
  go_wp2
  go_region
  all_goals go_wp2
  all_goals
    go_returns
    exact ⟨rfl, ((Below.refl _ _).alloc (Nat.le_refl _) _).drew⟩
set_option maxRecDepth 20000 in
theorem range23 (X : Nat) (w : World) (h : w.rowIs X 49 10 src0) : Calls Tryf.prog 23 #[ptr X, .agg #[.int .i32 0]] w fun e w' => e = .returned (.agg #[.int .i32 0, .int .i32 0]) ∧ Below w.heap.size w w' := by
  have kX := h.lt
  have c0 := h.cell (i := 0) (by omega)
  have c1 := h.cell (i := 1) (by omega)
  have c2 := h.cell (i := 2) (by omega)
  have c3 := h.cell (i := 3) (by omega)
  have c4 := h.cell (i := 4) (by omega)
  have c5 := h.cell (i := 5) (by omega)
  have c6 := h.cell (i := 6) (by omega)
  have c7 := h.cell (i := 7) (by omega)
  simp only [src0] at c0 c1 c2 c3 c4 c5 c6 c7
  clear h
  unfold ptr
  go_enter Tryf.func23, Tryf.ntmps23
  go_wp2
  go_quiet (fail)
  go_wp2
  have R : (((w.alloc (.cells #[.int .i32 0] 54)).alloc (.cells #[.int .i32 0, .int .i32 0] 76)).drewN nq).rowIs (w.heap.size + 1) 76 2 (duo (.int .i32 0) (.int .i32 0)) := by
    have := duo_alloc (.int .i32 0) (.int .i32 0) 76 (w.alloc (.cells #[.int .i32 0] 54))
    rw [World.size_alloc] at this
    exact this
  have S2 := duo_row _ (w.heap.size + 1) 76 _ (.int .i32 0) (.int .i32 0) R
  have s0 := S2.cell (i := 0) (by omega)
  have s1 := S2.cell (i := 1) (by omega)
  simp only [duo] at s0 s1
  have B := below_draws (((Below.refl w.heap.size w).alloc (Nat.le_refl _) (.cells #[.int .i32 0] 54)).alloc (by simp) (.cells #[.int .i32 0, .int .i32 0] 76)) nq
  exact bodyPost_ret (v := .agg #[.int .i32 0, .int .i32 0]) (by simp [results, Tryf.results23, go_sem, s0, s1]) rfl ⟨rfl, (B.setCell (Nat.le_succ w.heap.size) _).setCell (Nat.le_succ w.heap.size) _⟩
end Go.Proofs.YtlhdihdlkejjdaaFmt.DfE
