/- A tracker over empty contents: line and column of offset 0; a message's data; an id's message onto a log. -/
import Derived.Test.YtlhdihdlkejjdaaFmtDfB
import Derived.Deep.RegionHeld3
import Derived.Deep.RegionWith
namespace Go.Proofs.YtlhdihdlkejjdaaFmt.DfC
open Go.RowKit Go.Deep Go.MuLone Go.Proofs.YtlhdihdlkejjdaaFmt.Base Go.Proofs.YtlhdihdlkejjdaaFmt.Sls Go.Proofs.YtlhdihdlkejjdaaFmt.DfA Go.Proofs.YtlhdihdlkejjdaaFmt.DfB
set_option linter.unusedVariables false
def fou (v0 v1 v2 v3 : Value) : Nat → Value
  | 0 => v0
  | 1 => v1
  | 2 => v2
  | _ => v3
theorem fou_row (w : World) (B t : Nat) (f : Nat → Value) (v0 v1 v2 v3 : Value) (h : w.rowIs B t 4 f) : ((((w.setCell ⟨B, 0, none⟩ v0).setCell ⟨B, 1, none⟩ v1).setCell ⟨B, 2, none⟩ v2).setCell ⟨B, 3, none⟩ v3).rowIs B t 4 (fou v0 v1 v2 v3) :=
  ((((h.set _ _).set _ _).set _ _).set _ _).congr (fun i hi => by
    match i, hi with
    | 0, _ => rfl
    | 1, _ => rfl
    | 2, _ => rfl
    | 3, _ => rfl)
theorem fou_far (w : World) (B b : Nat) (v0 v1 v2 v3 : Value) (hne : b ≠ B) : ((((w.setCell ⟨B, 0, none⟩ v0).setCell ⟨B, 1, none⟩ v1).setCell ⟨B, 2, none⟩ v2).setCell ⟨B, 3, none⟩ v3).heap[b]? = w.heap[b]? := by
  repeat rw [blk_setCell_other _ _ _ _ (by exact hne)]
theorem fou_below (w : World) (B : Nat) (v0 v1 v2 v3 : Value) : Below B w ((((w.setCell ⟨B, 0, none⟩ v0).setCell ⟨B, 1, none⟩ v1).setCell ⟨B, 2, none⟩ v2).setCell ⟨B, 3, none⟩ v3) :=
  ((((Below.refl B w).setCell (Nat.le_refl _) _).setCell (Nat.le_refl _) _).setCell (Nat.le_refl _) _).setCell (Nat.le_refl _) _
theorem fou_alloc (v0 v1 v2 v3 : Value) (t : TypeId) (w : World) : (w.alloc (.cells #[v0, v1, v2, v3] t)).rowIs w.heap.size t 4 (fou v0 v1 v2 v3) :=
  World.rowIs_alloc w #[v0, v1, v2, v3] t _ (fun i hi => by
    match i, hi with
    | 0, _ => rfl
    | 1, _ => rfl
    | 2, _ => rfl
    | 3, _ => rfl)
def trk (he : Bool) : Nat → Value
  | 0 => .string { data := #[] }
  | 1 => .string { data := #[] }
  | 2 => .string { data := #[] }
  | 3 => .int .i32 0
  | 4 => .int .i32 0
  | 5 => .int .i32 0
  | 6 => .int .i32 0
  | 7 => .bool true
  | 8 => .bool he
  | _ => .bool true
theorem scan52 (T : Nat) (he : Bool) (w : World) (h : w.rowIs T 57 10 (trk he)) : Calls Tryf.prog 52 #[ptr T, .int .i32 0] w fun e w' => e = .returned (.tuple #[]) ∧ w = w' := by
  have c0 := h.cell (i := 0) (by omega)
  have c3 := h.cell (i := 3) (by omega)
  simp only [trk] at c0 c3
  clear h
  unfold ptr
  go_enter Tryf.func52, Tryf.ntmps52
  go_wp2
  go_end0
  exact ⟨rfl, rfl⟩
set_option maxRecDepth 20000 in
theorem compute50 (T : Nat) (w : World) (h : w.rowIs T 57 10 (trk false)) : Calls Tryf.prog 50 #[ptr T, .int .i64 0] w fun e w' => e = .returned (.tuple #[.int .i64 0, .int .i64 0, .int .i64 0, .int .i64 0]) ∧ w'.rowIs T 57 10 (trk true) ∧ (∀ q, q ≠ T → w'.heap[q]? = w.heap[q]?) ∧ ∀ B, B ≤ T → Below B w w' := by
  have c0 := h.cell (i := 0) (by omega)
  have f0 := h.frozen 0
  have c1 := h.cell (i := 1) (by omega)
  have f1 := h.frozen 1
  have c2 := h.cell (i := 2) (by omega)
  have f2 := h.frozen 2
  have c3 := h.cell (i := 3) (by omega)
  have f3 := h.frozen 3
  have c4 := h.cell (i := 4) (by omega)
  have f4 := h.frozen 4
  have c5 := h.cell (i := 5) (by omega)
  have f5 := h.frozen 5
  have c6 := h.cell (i := 6) (by omega)
  have f6 := h.frozen 6
  have c7 := h.cell (i := 7) (by omega)
  have f7 := h.frozen 7
  have c8 := h.cell (i := 8) (by omega)
  have f8 := h.frozen 8
  have c9 := h.cell (i := 9) (by omega)
  have f9 := h.frozen 9
  simp only [trk] at c0 c1 c2 c3 c4 c5 c6 c7 c8 c9
  have S := Lib.hid (scan52 T false w h)
  have H := Lib.hid h
  clear h
  unfold ptr at S ⊢
  go_enter Tryf.func50, Tryf.ntmps50
  go_wp2_with (first | (go_at_call 52; refine S.out.mono ?_; rintro e w7 ⟨rfl, rfl⟩) | fail)
  go_loop [13] (fun a => a = .int .i32 0) (fun _ => 0)
  case atStart => rfl
  case round =>
  obtain rfl := hrel
  go_wp2
  have R2 := ((H.out.set 8 (.bool true)).set 6 (.int .i32 0)).congr (g := trk true) (fun i hi => by
    match i, hi with
    | 0, _ => rfl
    | 1, _ => rfl
    | 2, _ => rfl
    | 3, _ => rfl
    | 4, _ => rfl
    | 5, _ => rfl
    | 6, _ => rfl
    | 7, _ => rfl
    | 8, _ => rfl
    | 9, _ => rfl)
  have B2 : ∀ B, B ≤ T → Below B w ((w.setCell ⟨T, 8, none⟩ (.bool true)).setCell ⟨T, 6, none⟩ (.int .i32 0)) := fun B hB => ((Below.refl _ _).setCell hB _).setCell hB _
  have E2 : ∀ q, q ≠ T → ((w.setCell ⟨T, 8, none⟩ (.bool true)).setCell ⟨T, 6, none⟩ (.int .i32 0)).heap[q]? = w.heap[q]? := fun q hq => (blk_setCell_other _ _ _ _ hq).trans (blk_setCell_other _ _ _ _ hq)
  clear c0 c1 c2 c3 c4 c5 c6 c7 c8 c9 f0 f1 f2 f3 f4 f5 f6 f7 f8 f9 S
  generalize ((w.setCell ⟨T, 8, none⟩ (.bool true)).setCell ⟨T, 6, none⟩ (.int .i32 0)) = w2 at R2 B2 E2 ⊢
  have c4 := R2.cell (i := 4) (by omega)
  have c5 := R2.cell (i := 5) (by omega)
  have c6 := R2.cell (i := 6) (by omega)
  simp only [trk] at c4 c5 c6
  have HR := Lib.hid R2; have HB := Lib.hid B2; have HE := Lib.hid E2
  clear R2 B2 E2
  go_quiet (fail)
  go_wp2
  exact bodyPost_ret (v := .tuple #[.int .i64 0, .int .i64 0, .int .i64 0, .int .i64 0]) (by simp [results, Tryf.results50, go_sem]) rfl ⟨rfl, HR.out, HE.out, fun B hB => below_draws (HB.out B hB) _⟩
set_option maxRecDepth 20000 in
theorem loc41 (T : Nat) (w : World) (h : w.rowIs T 57 10 (trk false)) : Calls Tryf.prog 41 #[ptr T, .agg #[.int .i32 0, .int .i32 0]] w fun e w' => (∃ g, e = .returned (ptr g)) ∧ (∀ q, q ≠ T → q < w.heap.size → w'.heap[q]? = w.heap[q]?) ∧ w.heap.size ≤ w'.heap.size ∧ ∀ B, B ≤ T → Below B w w' := by
  have hT := h.lt
  have c9 := h.cell (i := 9) (by omega)
  simp only [trk] at c9
  have C := Lib.hid (compute50 T (w.alloc (.cells #[.int .i32 0, .int .i32 0] 76)) (h.alloc _))
  have hnp : ∀ wz : World, Sem.run Tryf.prog (binOp BinOp.eql 22 (.pointer (some ⟨T, 0, none⟩)) (.pointer none)) wz = .ok (.bool false) wz := fun wz => by kernel_rfl
  unfold ptr at C ⊢
  clear h
  go_enter Tryf.func41, Tryf.ntmps41
  go_wp2_with (first | (go_at_call 50; refine C.out.mono ?_; rintro e w7 ⟨rfl, hr7, he7, hb7⟩) | fail)
  have t0 := hr7.cell (i := 0) (by omega)
  have t1 := hr7.cell (i := 1) (by omega)
  have t2 := hr7.cell (i := 2) (by omega)
  simp only [trk] at t0 t1 t2
  have x7 : w7.heap[w.heap.size]? = some (.cells #[.int .i32 0, .int .i32 0] 76 (0, 0)) := (he7 _ (by omega)).trans (heap_alloc_new w _)
  have x1 : w7.cell? ⟨w.heap.size, 1, none⟩ = some (.int .i32 0) := by simp [World.cell?, x7]
  have hz7 := (hb7 0 (by omega)).size
  simp only [World.size_alloc] at hz7
  have HE := Lib.hid he7; have HB := Lib.hid hb7
  have n1 : ∀ o, ((w7.alloc o).drew).cell? ⟨T, 0, none⟩ = some (.string { data := #[] }) := fun o => (World.cell?_of_block (blk_alloc_lt w7 o T (by omega))).trans t0
  have n2 : ∀ o, ((w7.alloc o).drew).cell? ⟨T, 1, none⟩ = some (.string { data := #[] }) := fun o => (World.cell?_of_block (blk_alloc_lt w7 o T (by omega))).trans t1
  have n3 : ∀ o, ((w7.alloc o).drew).cell? ⟨T, 2, none⟩ = some (.string { data := #[] }) := fun o => (World.cell?_of_block (blk_alloc_lt w7 o T (by omega))).trans t2
  have n4 : ∀ o, ((w7.alloc o).drew).cell? ⟨w.heap.size, 1, none⟩ = some (.int .i32 0) := fun o => (World.cell?_of_block (blk_alloc_lt w7 o w.heap.size (by omega))).trans x1
  clear hr7 he7 hb7 C c9
  refine wp_region_held_drew (S := fun w' => w'.cell? ⟨T, 0, none⟩ = some (.string { data := #[] }) ∧ w'.cell? ⟨T, 1, none⟩ = some (.string { data := #[] }) ∧ w'.cell? ⟨T, 2, none⟩ = some (.string { data := #[] }) ∧ w'.cell? ⟨w.heap.size, 1, none⟩ = some (.int .i32 0)) (by kernel_rfl) ⟨t0, t1, t2, x1⟩ (fun hHeld => ?_)
  refine wpAnyH_take (i := 0) (oi := { dst := some 29, op := Op.move (Operand.tmp 0), type := 22, pos := "logger.go:1395", after := #[], guard := none }) (v := ?_) rfl (by kernel_rfl) (by kernel_rfl) (by kernel_rfl) (fun _ _ _ h => h) (Or.inl ⟨by rfl, ?_⟩) (by assumption) ?_
  rotate_left
  · intro wq hSw
    obtain ⟨q1, q2, q3, q4⟩ := hSw
    go_simp
    try (with_reducible rfl)
  try go_frame
  refine wpAnyH_take (i := 1) (oi := { dst := some 30, op := Op.nilCheck (Operand.tmp 29), type := 0, pos := "logger.go:1395", after := #[{ on := 0, ground := Ground.data }], guard := none }) (v := ?_) rfl (by kernel_rfl) (by kernel_rfl) (by kernel_rfl) (fun _ _ _ h => h) (Or.inl ⟨by rfl, ?_⟩) (by assumption) ?_
  rotate_left
  · intro wq hSw
    obtain ⟨q1, q2, q3, q4⟩ := hSw
    go_simp
    try (with_reducible rfl)
  try go_frame
  refine wpAnyH_take (i := 2) (oi := { dst := some 31, op := Op.fieldAddr 57 (Operand.tmp 30) 1, type := 0, pos := "logger.go:1395", after := #[{ on := 1, ground := Ground.data }], guard := none }) (v := ?_) rfl (by kernel_rfl) (by kernel_rfl) (by kernel_rfl) (fun _ _ _ h => h) (Or.inl ⟨by rfl, ?_⟩) (by assumption) ?_
  rotate_left
  · intro wq hSw
    obtain ⟨q1, q2, q3, q4⟩ := hSw
    go_simp
    try (with_reducible rfl)
  try go_frame
  refine wpAnyH_take (i := 3) (oi := { dst := some 32, op := Op.load 41 (Operand.tmp 31), type := 41, pos := "logger.go:1395", after := #[{ on := 2, ground := Ground.data }], guard := none }) (v := ?_) rfl (by kernel_rfl) (by kernel_rfl) (by kernel_rfl) (fun _ _ _ h => h) (Or.inl ⟨by rfl, ?_⟩) (by assumption) ?_
  rotate_left
  · intro wq hSw
    obtain ⟨q1, q2, q3, q4⟩ := hSw
    go_simp
    try (with_reducible rfl)
  try go_frame
  refine wpAnyH_take (i := 4) (oi := { dst := some 33, op := Op.move (Operand.tmp 5), type := 3, pos := "logger.go:1395", after := #[], guard := none }) (v := ?_) rfl (by kernel_rfl) (by kernel_rfl) (by kernel_rfl) (fun _ _ _ h => h) (Or.inl ⟨by rfl, ?_⟩) (by assumption) ?_
  rotate_left
  · intro wq hSw
    obtain ⟨q1, q2, q3, q4⟩ := hSw
    go_simp
    try (with_reducible rfl)
  try go_frame
  refine wpAnyH_take (i := 5) (oi := { dst := some 34, op := Op.binOp BinOp.add 3 (Operand.tmp 33) (Operand.const (Value.int IntKind.i64 1)) 3, type := 3, pos := "logger.go:1395", after := #[{ on := 4, ground := Ground.data }], guard := none }) (v := ?_) rfl (by kernel_rfl) (by kernel_rfl) (by kernel_rfl) (fun _ _ _ h => h) (Or.inl ⟨by rfl, ?_⟩) (by assumption) ?_
  rotate_left
  · intro wq hSw
    obtain ⟨q1, q2, q3, q4⟩ := hSw
    go_simp
    try (with_reducible rfl)
  try go_frame
  refine wpAnyH_take (i := 6) (oi := { dst := some 35, op := Op.move (Operand.tmp 6), type := 3, pos := "logger.go:1395", after := #[], guard := none }) (v := ?_) rfl (by kernel_rfl) (by kernel_rfl) (by kernel_rfl) (fun _ _ _ h => h) (Or.inl ⟨by rfl, ?_⟩) (by assumption) ?_
  rotate_left
  · intro wq hSw
    obtain ⟨q1, q2, q3, q4⟩ := hSw
    go_simp
    try (with_reducible rfl)
  try go_frame
  refine wpAnyH_take (i := 7) (oi := { dst := some 36, op := Op.fieldAddr 76 (Operand.tmp 3) 1, type := 0, pos := "logger.go:1395", after := #[], guard := none }) (v := ?_) rfl (by kernel_rfl) (by kernel_rfl) (by kernel_rfl) (fun _ _ _ h => h) (Or.inl ⟨by rfl, ?_⟩) (by assumption) ?_
  rotate_left
  · intro wq hSw
    obtain ⟨q1, q2, q3, q4⟩ := hSw
    go_simp
    try (with_reducible rfl)
  try go_frame
  refine wpAnyH_take (i := 8) (oi := { dst := some 37, op := Op.load 21 (Operand.tmp 36), type := 21, pos := "logger.go:1395", after := #[{ on := 7, ground := Ground.data }], guard := none }) (v := ?_) rfl (by kernel_rfl) (by kernel_rfl) (by kernel_rfl) (fun _ _ _ h => h) (Or.inl ⟨by rfl, ?_⟩) (by assumption) ?_
  rotate_left
  · intro wq hSw
    obtain ⟨q1, q2, q3, q4⟩ := hSw
    go_simp
    try (with_reducible rfl)
  try go_frame
  refine wpAnyH_take (i := 9) (oi := { dst := some 38, op := Op.convert 21 3 (Operand.tmp 37), type := 3, pos := "logger.go:1395", after := #[{ on := 8, ground := Ground.data }], guard := none }) (v := ?_) rfl (by kernel_rfl) (by kernel_rfl) (by kernel_rfl) (fun _ _ _ h => h) (Or.inl ⟨by rfl, ?_⟩) (by assumption) ?_
  rotate_left
  · intro wq hSw
    obtain ⟨q1, q2, q3, q4⟩ := hSw
    go_simp
    try (with_reducible rfl)
  try go_frame
  refine wpAnyH_take (i := 10) (oi := { dst := some 39, op := Op.move (Operand.tmp 0), type := 22, pos := "logger.go:1395", after := #[], guard := none }) (v := ?_) rfl (by kernel_rfl) (by kernel_rfl) (by kernel_rfl) (fun _ _ _ h => h) (Or.inl ⟨by rfl, ?_⟩) (by assumption) ?_
  rotate_left
  · intro wq hSw
    obtain ⟨q1, q2, q3, q4⟩ := hSw
    go_simp
    try (with_reducible rfl)
  try go_frame
  refine wpAnyH_take (i := 11) (oi := { dst := some 40, op := Op.nilCheck (Operand.tmp 39), type := 0, pos := "logger.go:1395", after := #[{ on := 10, ground := Ground.data }], guard := none }) (v := ?_) rfl (by kernel_rfl) (by kernel_rfl) (by kernel_rfl) (fun _ _ _ h => h) (Or.inl ⟨by rfl, ?_⟩) (by assumption) ?_
  rotate_left
  · intro wq hSw
    obtain ⟨q1, q2, q3, q4⟩ := hSw
    go_simp
    try (with_reducible rfl)
  try go_frame
  refine wpAnyH_take (i := 12) (oi := { dst := some 41, op := Op.fieldAddr 57 (Operand.tmp 40) 0, type := 0, pos := "logger.go:1395", after := #[{ on := 11, ground := Ground.data }], guard := none }) (v := ?_) rfl (by kernel_rfl) (by kernel_rfl) (by kernel_rfl) (fun _ _ _ h => h) (Or.inl ⟨by rfl, ?_⟩) (by assumption) ?_
  rotate_left
  · intro wq hSw
    obtain ⟨q1, q2, q3, q4⟩ := hSw
    go_simp
    try (with_reducible rfl)
  try go_frame
  refine wpAnyH_take (i := 13) (oi := { dst := some 42, op := Op.load 9 (Operand.tmp 41), type := 9, pos := "logger.go:1395", after := #[{ on := 12, ground := Ground.data }], guard := none }) (v := ?_) rfl (by kernel_rfl) (by kernel_rfl) (by kernel_rfl) (fun _ _ _ h => h) (Or.inl ⟨by rfl, ?_⟩) (by assumption) ?_
  rotate_left
  · intro wq hSw
    obtain ⟨q1, q2, q3, q4⟩ := hSw
    go_simp
    try (with_reducible rfl)
  try go_frame
  refine wpAnyH_take (i := 14) (oi := { dst := some 43, op := Op.move (Operand.tmp 7), type := 3, pos := "logger.go:1395", after := #[], guard := none }) (v := ?_) rfl (by kernel_rfl) (by kernel_rfl) (by kernel_rfl) (fun _ _ _ h => h) (Or.inl ⟨by rfl, ?_⟩) (by assumption) ?_
  rotate_left
  · intro wq hSw
    obtain ⟨q1, q2, q3, q4⟩ := hSw
    go_simp
    try (with_reducible rfl)
  try go_frame
  refine wpAnyH_take (i := 15) (oi := { dst := some 44, op := Op.move (Operand.tmp 8), type := 3, pos := "logger.go:1395", after := #[], guard := none }) (v := ?_) rfl (by kernel_rfl) (by kernel_rfl) (by kernel_rfl) (fun _ _ _ h => h) (Or.inl ⟨by rfl, ?_⟩) (by assumption) ?_
  rotate_left
  · intro wq hSw
    obtain ⟨q1, q2, q3, q4⟩ := hSw
    go_simp
    try (with_reducible rfl)
  try go_frame
  refine wpAnyH_take (i := 16) (oi := { dst := some 45, op := Op.slice 9 (Operand.tmp 42) (some (Operand.tmp 43)) (some (Operand.tmp 44)) none, type := 9, pos := "logger.go:1395", after := #[{ on := 13, ground := Ground.data }, { on := 14, ground := Ground.data }, { on := 15, ground := Ground.data }], guard := none }) (v := ?_) rfl (by kernel_rfl) (by kernel_rfl) (by kernel_rfl) (fun _ _ _ h => h) (Or.inl ⟨by rfl, ?_⟩) (by assumption) ?_
  rotate_left
  · intro wq hSw
    obtain ⟨q1, q2, q3, q4⟩ := hSw
    go_simp
    try (with_reducible rfl)
  try go_frame
  refine wpAnyH_take (i := 17) (oi := { dst := some 46, op := Op.build 110 #[(0, Operand.tmp 32), (4, Operand.tmp 34), (5, Operand.tmp 35), (6, Operand.tmp 38), (2, Operand.tmp 45)], type := 110, pos := "logger.go:1395", after := #[{ on := 3, ground := Ground.data }, { on := 5, ground := Ground.data }, { on := 6, ground := Ground.data }, { on := 9, ground := Ground.data }, { on := 16, ground := Ground.data }], guard := none }) (v := ?_) rfl (by kernel_rfl) (by kernel_rfl) (by kernel_rfl) (fun _ _ _ h => h) (Or.inl ⟨by rfl, ?_⟩) (by assumption) ?_
  rotate_left
  · intro wq hSw
    obtain ⟨q1, q2, q3, q4⟩ := hSw
    go_simp
    try (with_reducible rfl)
  try go_frame
  refine wpAnyH_ready (rs := [18]) (by kernel_rfl) (by simp) ?_
  refine AllReadyH.cons rfl (fun K hK => ?_) AllReadyH.nil
  go_simp
  refine hK.out _ _ ⟨n1 _, n2 _, n3 _, n4 _⟩ (fun hHeld => ?_)
  clear hK K
  try go_frame
  refine wpAnyH_take (i := 19) (oi := { dst := some 4, op := Op.assign (Operand.tmp 47), type := 68, pos := "logger.go:1395", after := #[{ on := 18, ground := Ground.data }, { on := 0, ground := Ground.phase }, { on := 1, ground := Ground.phase }, { on := 2, ground := Ground.phase }, { on := 3, ground := Ground.phase }, { on := 4, ground := Ground.phase }, { on := 5, ground := Ground.phase }, { on := 6, ground := Ground.phase }, { on := 7, ground := Ground.phase }, { on := 8, ground := Ground.phase }, { on := 9, ground := Ground.phase }, { on := 10, ground := Ground.phase }, { on := 11, ground := Ground.phase }, { on := 12, ground := Ground.phase }, { on := 13, ground := Ground.phase }, { on := 14, ground := Ground.phase }, { on := 15, ground := Ground.phase }, { on := 16, ground := Ground.phase }, { on := 17, ground := Ground.phase }, { on := 18, ground := Ground.phase }], guard := none }) (v := ?_) rfl (by kernel_rfl) (by kernel_rfl) (by kernel_rfl) (fun _ _ _ h => h) (Or.inl ⟨by rfl, ?_⟩) (by assumption) ?_
  rotate_left
  · intro wq hSw
    have q1 := hSw.1
    go_simp
    try (with_reducible rfl)
  try go_frame
  refine wpAnyH_done (by kernel_rfl) ?_ _
  go_wp2
  go_ret
  refine ⟨⟨w7.heap.size, rfl⟩, fun q h1 h2 => (blk_alloc_lt w7 _ q (by omega)).trans ((HE.out q h1).trans (blk_alloc_lt w _ q h2)), by simp; omega, fun B hB => ?_⟩
  exact ((((Below.refl B w).alloc (by omega) _).trans (HB.out B hB)).alloc (by omega) _).drew
set_option maxRecDepth 20000 in
theorem data30 (T : Nat) (tx : ByteArray) (w : World) (h : w.rowIs T 57 10 (trk false)) : Calls Tryf.prog 30 #[ptr T, .agg #[.int .i32 0, .int .i32 0], .string tx] w fun e w' => (∃ g, e = .returned (.agg #[.nilIface, ptr g, .string tx, .bool false])) ∧ (∀ q, q ≠ T → q < w.heap.size → w'.heap[q]? = w.heap[q]?) ∧ w.heap.size ≤ w'.heap.size ∧ ∀ B, B ≤ T → Below B w w' := by
  have hT := h.lt
  have C := Lib.hid (fun o1 o2 => loc41 T ((w.alloc o1).alloc o2) ((h.alloc o1).alloc o2))
  clear h
  go_enter Tryf.func30, Tryf.ntmps30
  go_wp2_with (fail)
  refine (C.out _ _).mono ?_
  rintro e w7 ⟨⟨g, rfl⟩, he, hz, hb⟩
  have HE := Lib.hid he; have HB := Lib.hid hb
  simp only [World.size_alloc] at hz
  have R7 : w7.rowIs (w.heap.size + 1) 70 4 (fou .nilIface (.pointer none) (.string { data := #[] }) (.bool false)) := by
    have := fou_alloc .nilIface (.pointer none) (.string { data := #[] }) (.bool false) 70 (w.alloc (.cells #[.int .i32 0, .int .i32 0] 76))
    rw [World.size_alloc] at this
    exact this.of_block (he _ (by omega) (by simp))
  have c0 := R7.cell (i := 0) (by omega)
  have c1 := R7.cell (i := 1) (by omega)
  have c2 := R7.cell (i := 2) (by omega)
  have c3 := R7.cell (i := 3) (by omega)
  have f1 := R7.frozen 0; have f2 := R7.frozen 1; have f3 := R7.frozen 2; have f4 := R7.frozen 3
  simp only [fou] at c0 c1 c2 c3
  have HR := Lib.hid R7
  clear he hb R7 C
  unfold ptr
  go_wp2
  have S4 := fou_row w7 (w.heap.size + 1) 70 _ .nilIface (.pointer (some ⟨g, 0, none⟩)) (.string tx) (.bool false) HR.out
  have d0 := S4.cell (i := 0) (by omega)
  have d1 := S4.cell (i := 1) (by omega)
  have d2 := S4.cell (i := 2) (by omega)
  have d3 := S4.cell (i := 3) (by omega)
  simp only [fou] at d0 d1 d2 d3
  have far := fun q (hq : q ≠ w.heap.size + 1) => fou_far w7 (w.heap.size + 1) q .nilIface (.pointer (some ⟨g, 0, none⟩)) (.string tx) (.bool false) hq
  have bel := fou_below w7 (w.heap.size + 1) .nilIface (.pointer (some ⟨g, 0, none⟩)) (.string tx) (.bool false)
  refine bodyPost_ret (v := .agg #[.nilIface, .pointer (some ⟨g, 0, none⟩), .string tx, .bool false]) (by simp [results, Tryf.results30, go_sem, d0, d1, d2, d3]) rfl ⟨⟨g, rfl⟩, fun q h1 h2 => (far q (by omega)).trans ((HE.out q h1 (by simp; omega)).trans ((blk_alloc_lt _ _ _ (by simp; omega)).trans (blk_alloc_lt _ _ _ h2))), by simp; omega, fun B hB => ?_⟩
  exact ((((Below.refl B w).alloc (by omega) _).alloc (by simp; omega) _).trans (HB.out B hB)).trans (bel.mono (by omega))
theorem allow29 (id kd : Int) (h0 : 0 ≤ id) (h1 : id ≤ 255) (w : World) : Calls Tryf.prog 29 #[.map none, .int .u8 id, .int .u8 kd] w fun e w' => e = .returned (.tuple #[.int .u8 kd, .bool true]) ∧ w = w' := by
  have hlk : ∀ wz : World, (Instr.lookup 35 (.map none) (.int .u8 id) true).run Tryf.prog wz = .ok (.tuple #[.int .i8 0, .bool false]) wz := fun wz => by kernel_rfl
  go_enter Tryf.func29, Tryf.ntmps29
  go_wp2
  go_returns
  exact ⟨rfl, rfl⟩
end Go.Proofs.YtlhdihdlkejjdaaFmt.DfC
