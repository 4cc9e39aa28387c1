/- MsgData without a tracker, AddError by contracts: one message more, without a location. Conditions: the log is free; at most 2^22 messages. -/
import Derived.Test.YtlmkgghfnfhojaaGreatDoorLm
import Derived.Deep.RegionHeld
namespace Go.Proofs.YtlmkgghfnfhojaaGreatDoor.Ln
open Go.RowKit Go.Deep Go.MuLone Go.Proofs.YtlmkgghfnfhojaaGreatDoor.Base Go.Proofs.YtlmkgghfnfhojaaGreatDoor.Sls Go.Proofs.YtlmkgghfnfhojaaGreatDoor.Lk Go.Proofs.YtlmkgghfnfhojaaGreatDoor.Lm
set_option linter.unusedVariables false
def fou (v0 v1 v2 v3 : Value) : Nat → Value
  | 0 => v0
  | 1 => v1
  | 2 => v2
  | _ => v3
theorem fou_row (w : World) (B t : Nat) (f : Nat → Value) (v0 v1 v2 v3 : Value) (h : w.rowIs B t 4 f) : ((((w.setCell ⟨B, 0, none⟩ v0).setCell ⟨B, 1, none⟩ v1).setCell ⟨B, 2, none⟩ v2).setCell ⟨B, 3, none⟩ v3).rowIs B t 4 (fou v0 v1 v2 v3) :=
  ((((h.set _ _).set _ _).set _ _).set _ _).congr (fun i hi => by
    match i, hi with
    | 0, _ => rfl
    | 1, _ => rfl
    | 2, _ => rfl
    | 3, _ => rfl)
theorem fou_far (w : World) (B b : Nat) (v0 v1 v2 v3 : Value) (hne : b ≠ B) : ((((w.setCell ⟨B, 0, none⟩ v0).setCell ⟨B, 1, none⟩ v1).setCell ⟨B, 2, none⟩ v2).setCell ⟨B, 3, none⟩ v3).heap[b]? = w.heap[b]? := by
  repeat rw [blk_setCell_other _ _ _ _ (by exact hne)]
theorem fou_below (w : World) (B : Nat) (v0 v1 v2 v3 : Value) : Below B w ((((w.setCell ⟨B, 0, none⟩ v0).setCell ⟨B, 1, none⟩ v1).setCell ⟨B, 2, none⟩ v2).setCell ⟨B, 3, none⟩ v3) :=
  ((((Below.refl B w).setCell (Nat.le_refl _) _).setCell (Nat.le_refl _) _).setCell (Nat.le_refl _) _).setCell (Nat.le_refl _) _
theorem fou_alloc (v0 v1 v2 v3 : Value) (t : TypeId) (w : World) : (w.alloc (.cells #[v0, v1, v2, v3] t)).rowIs w.heap.size t 4 (fou v0 v1 v2 v3) :=
  World.rowIs_alloc w #[v0, v1, v2, v3] t _ (fun i hi => by
    match i, hi with
    | 0, _ => rfl
    | 1, _ => rfl
    | 2, _ => rfl
    | 3, _ => rfl)
theorem locF (w : World) : Calls Tryz.prog 41 #[.pointer none, .agg #[.int .i32 0, .int .i32 0]] w fun e w' => e = .returned (.pointer none) ∧ Below w.heap.size w w' := by
  go_enter Tryz.func41, Tryz.ntmps41
  go_wp2
  go_ret
  exact ⟨rfl, (Below.refl _ _).alloc (Nat.le_refl _) _⟩
set_option maxRecDepth 20000 in
theorem dataF (tx : ByteArray) (w : World) : Calls Tryz.prog 30 #[.pointer none, .agg #[.int .i32 0, .int .i32 0], .string tx] w fun e w' => e = .returned (.agg #[.nilIface, .pointer none, .string tx, .bool false]) ∧ Below w.heap.size w w' := by
  have C := Lib.hid (fun o1 o2 => locF ((w.alloc o1).alloc o2))
  go_enter Tryz.func30, Tryz.ntmps30
  go_wp2_with (fail)
  refine (C.out _ _).mono ?_
  rintro e w7 ⟨rfl, hb⟩
  have HB := Lib.hid hb
  have hz := hb.size
  simp only [World.size_alloc] at hz
  have R7 : w7.rowIs (w.heap.size + 1) 45 4 (fou .nilIface (.pointer none) (.string { data := #[] }) (.bool false)) := by
    have := fou_alloc .nilIface (.pointer none) (.string { data := #[] }) (.bool false) 45 (w.alloc (.cells #[.int .i32 0, .int .i32 0] 71))
    rw [World.size_alloc] at this
    exact this.of_block (hb.block _ (by simp))
  have c0 := R7.cell (i := 0) (by omega)
  have c1 := R7.cell (i := 1) (by omega)
  have c2 := R7.cell (i := 2) (by omega)
  have c3 := R7.cell (i := 3) (by omega)
  have f1 := R7.frozen 0; have f2 := R7.frozen 1; have f3 := R7.frozen 2; have f4 := R7.frozen 3
  simp only [fou] at c0 c1 c2 c3
  have HR := Lib.hid R7
  clear hb R7 C
  go_wp2
  have S4 := fou_row w7 (w.heap.size + 1) 45 _ .nilIface (.pointer none) (.string tx) (.bool false) HR.out
  have d0 := S4.cell (i := 0) (by omega)
  have d1 := S4.cell (i := 1) (by omega)
  have d2 := S4.cell (i := 2) (by omega)
  have d3 := S4.cell (i := 3) (by omega)
  simp only [fou] at d0 d1 d2 d3
  have bel := fou_below w7 (w.heap.size + 1) .nilIface (.pointer none) (.string tx) (.bool false)
  refine bodyPost_ret (v := .agg #[.nilIface, .pointer none, .string tx, .bool false]) (by simp [results, Tryz.results30, go_sem, d0, d1, d2, d3]) rfl ⟨rfl, ?_⟩
  exact ((((Below.refl _ w).alloc (by omega) _).alloc (by simp) _).trans (HB.out.mono (by simp; omega))).trans (bel.mono (by omega))
end Go.Proofs.YtlmkgghfnfhojaaGreatDoor.Ln
