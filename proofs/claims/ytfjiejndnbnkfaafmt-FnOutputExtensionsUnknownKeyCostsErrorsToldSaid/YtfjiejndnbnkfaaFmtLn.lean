/- MsgData without a tracker, AddError by contracts: one message more, without a location. Conditions: the log is free; at most 2^22 messages. -/
import Derived.Test.YtfjiejndnbnkfaaFmtLm
import Derived.Deep.RegionHeld
namespace Go.Proofs.YtfjiejndnbnkfaaFmt.Ln
open Go.RowKit Go.Deep Go.MuLone Go.Proofs.YtfjiejndnbnkfaaFmt.Base Go.Proofs.YtfjiejndnbnkfaaFmt.Sls Go.Proofs.YtfjiejndnbnkfaaFmt.Lk Go.Proofs.YtfjiejndnbnkfaaFmt.Lm
set_option linter.unusedVariables false
def fou (v0 v1 v2 v3 : Value) : Nat → Value
  | 0 => v0
  | 1 => v1
  | 2 => v2
  | _ => v3
theorem fou_row (w : World) (B t : Nat) (f : Nat → Value) (v0 v1 v2 v3 : Value) (h : w.rowIs B t 4 f) : ((((w.setCell ⟨B, 0, none⟩ v0).setCell ⟨B, 1, none⟩ v1).setCell ⟨B, 2, none⟩ v2).setCell ⟨B, 3, none⟩ v3).rowIs B t 4 (fou v0 v1 v2 v3) :=
  ((((h.set _ _).set _ _).set _ _).set _ _).congr (fun i hi => by
    match i, hi with
    | 0, _ => rfl
    | 1, _ => rfl
    | 2, _ => rfl
    | 3, _ => rfl)
theorem fou_far (w : World) (B b : Nat) (v0 v1 v2 v3 : Value) (hne : b ≠ B) : ((((w.setCell ⟨B, 0, none⟩ v0).setCell ⟨B, 1, none⟩ v1).setCell ⟨B, 2, none⟩ v2).setCell ⟨B, 3, none⟩ v3).heap[b]? = w.heap[b]? := by
  repeat rw [blk_setCell_other _ _ _ _ (by exact hne)]
theorem fou_below (w : World) (B : Nat) (v0 v1 v2 v3 : Value) : Below B w ((((w.setCell ⟨B, 0, none⟩ v0).setCell ⟨B, 1, none⟩ v1).setCell ⟨B, 2, none⟩ v2).setCell ⟨B, 3, none⟩ v3) :=
  ((((Below.refl B w).setCell (Nat.le_refl _) _).setCell (Nat.le_refl _) _).setCell (Nat.le_refl _) _).setCell (Nat.le_refl _) _
theorem fou_alloc (v0 v1 v2 v3 : Value) (t : TypeId) (w : World) : (w.alloc (.cells #[v0, v1, v2, v3] t)).rowIs w.heap.size t 4 (fou v0 v1 v2 v3) :=
  World.rowIs_alloc w #[v0, v1, v2, v3] t _ (fun i hi => by
    match i, hi with
    | 0, _ => rfl
    | 1, _ => rfl
    | 2, _ => rfl
    | 3, _ => rfl)
theorem locF (w : World) : Calls Tryf.prog 26 #[.pointer none, .agg #[.int .i32 0, .int .i32 0]] w fun e w' => e = .returned (.pointer none) ∧ Below w.heap.size w w' := by
  go_enter Tryf.func26, Tryf.ntmps26
  go_wp2
  go_ret
  exact ⟨rfl, (Below.refl _ _).alloc (Nat.le_refl _) _⟩
set_option maxRecDepth 20000 in
theorem dataF (tx : ByteArray) (w : World) : Calls Tryf.prog 22 #[.pointer none, .agg #[.int .i32 0, .int .i32 0], .string tx] w fun e w' => e = .returned (.agg #[.nilIface, .pointer none, .string tx, .bool false]) ∧ Below w.heap.size w w' := by
  have C := Lib.hid (fun o1 o2 => locF ((w.alloc o1).alloc o2))
  go_enter Tryf.func22, Tryf.ntmps22
  go_wp2_with (fail)
  refine (C.out _ _).mono ?_
  rintro e w7 ⟨rfl, hb⟩
  have HB := Lib.hid hb
  have hz := hb.size
  simp only [World.size_alloc] at hz
  have R7 : w7.rowIs (w.heap.size + 1) 61 4 (fou .nilIface (.pointer none) (.string { data := #[] }) (.bool false)) := by
    have := fou_alloc .nilIface (.pointer none) (.string { data := #[] }) (.bool false) 61 (w.alloc (.cells #[.int .i32 0, .int .i32 0] 48))
    rw [World.size_alloc] at this
    exact this.of_block (hb.block _ (by simp))
  have c0 := R7.cell (i := 0) (by omega)
  have c1 := R7.cell (i := 1) (by omega)
  have c2 := R7.cell (i := 2) (by omega)
  have c3 := R7.cell (i := 3) (by omega)
  have f1 := R7.frozen 0; have f2 := R7.frozen 1; have f3 := R7.frozen 2; have f4 := R7.frozen 3
  simp only [fou] at c0 c1 c2 c3
  have HR := Lib.hid R7
  clear hb R7 C
  go_wp2
  have S4 := fou_row w7 (w.heap.size + 1) 61 _ .nilIface (.pointer none) (.string tx) (.bool false) HR.out
  have d0 := S4.cell (i := 0) (by omega)
  have d1 := S4.cell (i := 1) (by omega)
  have d2 := S4.cell (i := 2) (by omega)
  have d3 := S4.cell (i := 3) (by omega)
  simp only [fou] at d0 d1 d2 d3
  have bel := fou_below w7 (w.heap.size + 1) .nilIface (.pointer none) (.string tx) (.bool false)
  refine bodyPost_ret (v := .agg #[.nilIface, .pointer none, .string tx, .bool false]) (by simp [results, Tryf.results22, go_sem, d0, d1, d2, d3]) rfl ⟨rfl, ?_⟩
  exact ((((Below.refl _ w).alloc (by omega) _).alloc (by simp) _).trans (HB.out.mono (by simp; omega))).trans (bel.mono (by omega))
def errM (tx : ByteArray) : Ms := ⟨none, 0, 0, { data := #[] }, tx, false, 0, 0⟩
set_option maxRecDepth 20000 in
set_option maxHeartbeats 2000000 in
theorem errF (K M E S : Nat) (lvl : Int) (eb : Bool) (base : Nat) (v : Value) (ms : List Ms) (tx : ByteArray) (w : World) (h : Lg w K M E S 1 eb base v ms) (hm : ms.length < 4194304) :
    Calls Tryf.prog 13 #[logv K M E S lvl, .pointer none, .agg #[.int .i32 0, .int .i32 0], .string tx] w fun e w' => e = .returned (.tuple #[]) ∧ (∃ v', Lg w' K M E S 1 true base v' (ms ++ [errM tx]) ∧ ∀ q, q < w.heap.size → v.ownBlock ≠ some q → v'.ownBlock ≠ some q) ∧ (∀ q, q ≠ M → q ≠ S → q ≠ E → v.ownBlock ≠ some q → q < w.heap.size → w'.heap[q]? = w.heap[q]?) ∧ ∀ B, B ≤ M → B ≤ S → B ≤ E → B ≤ base → Below B w w' := by
  have HL := Lib.hid h
  clear h
  unfold logv ptr
  go_enter Tryf.func13, Tryf.ntmps13
  go_wp2_with (fail)
  have e0 : ∀ q, q < w.heap.size → ((w.alloc (.cells #[.func (Fn.func 15) #[] #[.pointer (some ⟨K, 0, none⟩), .pointer (some ⟨M, 0, none⟩), .pointer (some ⟨E, 0, none⟩), .pointer (some ⟨S, 0, none⟩)], .func (Fn.func 18) #[] #[.pointer (some ⟨M, 0, none⟩), .pointer (some ⟨E, 0, none⟩)], .func (Fn.func 19) #[] #[.pointer (some ⟨M, 0, none⟩), .pointer (some ⟨S, 0, none⟩)], .func (Fn.func 20) #[] #[.pointer (some ⟨M, 0, none⟩), .pointer (some ⟨S, 0, none⟩)], .int .i8 lvl, .map none] 37)).alloc (.cells #[.int .i32 0, .int .i32 0] 48)).heap[q]? = w.heap[q]? := fun q hq => (blk_alloc_lt _ _ _ (by simp; omega)).trans (blk_alloc_lt _ _ _ hq)
  have l0 : ((w.alloc (.cells #[.func (Fn.func 15) #[] #[.pointer (some ⟨K, 0, none⟩), .pointer (some ⟨M, 0, none⟩), .pointer (some ⟨E, 0, none⟩), .pointer (some ⟨S, 0, none⟩)], .func (Fn.func 18) #[] #[.pointer (some ⟨M, 0, none⟩), .pointer (some ⟨E, 0, none⟩)], .func (Fn.func 19) #[] #[.pointer (some ⟨M, 0, none⟩), .pointer (some ⟨S, 0, none⟩)], .func (Fn.func 20) #[] #[.pointer (some ⟨M, 0, none⟩), .pointer (some ⟨S, 0, none⟩)], .int .i8 lvl, .map none] 37)).alloc (.cells #[.int .i32 0, .int .i32 0] 48)).cell? ⟨w.heap.size, 0, none⟩ = some (.func (Fn.func 15) #[] #[.pointer (some ⟨K, 0, none⟩), .pointer (some ⟨M, 0, none⟩), .pointer (some ⟨E, 0, none⟩), .pointer (some ⟨S, 0, none⟩)]) := by go_simp
  have l1 : ((w.alloc (.cells #[.func (Fn.func 15) #[] #[.pointer (some ⟨K, 0, none⟩), .pointer (some ⟨M, 0, none⟩), .pointer (some ⟨E, 0, none⟩), .pointer (some ⟨S, 0, none⟩)], .func (Fn.func 18) #[] #[.pointer (some ⟨M, 0, none⟩), .pointer (some ⟨E, 0, none⟩)], .func (Fn.func 19) #[] #[.pointer (some ⟨M, 0, none⟩), .pointer (some ⟨S, 0, none⟩)], .func (Fn.func 20) #[] #[.pointer (some ⟨M, 0, none⟩), .pointer (some ⟨S, 0, none⟩)], .int .i8 lvl, .map none] 37)).alloc (.cells #[.int .i32 0, .int .i32 0] 48)).cell? ⟨w.heap.size + 1, 0, none⟩ = some (.int .i32 0) ∧ ((w.alloc (.cells #[.func (Fn.func 15) #[] #[.pointer (some ⟨K, 0, none⟩), .pointer (some ⟨M, 0, none⟩), .pointer (some ⟨E, 0, none⟩), .pointer (some ⟨S, 0, none⟩)], .func (Fn.func 18) #[] #[.pointer (some ⟨M, 0, none⟩), .pointer (some ⟨E, 0, none⟩)], .func (Fn.func 19) #[] #[.pointer (some ⟨M, 0, none⟩), .pointer (some ⟨S, 0, none⟩)], .func (Fn.func 20) #[] #[.pointer (some ⟨M, 0, none⟩), .pointer (some ⟨S, 0, none⟩)], .int .i8 lvl, .map none] 37)).alloc (.cells #[.int .i32 0, .int .i32 0] 48)).cell? ⟨w.heap.size + 1, 1, none⟩ = some (.int .i32 0) := ⟨by go_simp, by go_simp⟩
  have zz : ((w.alloc (.cells #[.func (Fn.func 15) #[] #[.pointer (some ⟨K, 0, none⟩), .pointer (some ⟨M, 0, none⟩), .pointer (some ⟨E, 0, none⟩), .pointer (some ⟨S, 0, none⟩)], .func (Fn.func 18) #[] #[.pointer (some ⟨M, 0, none⟩), .pointer (some ⟨E, 0, none⟩)], .func (Fn.func 19) #[] #[.pointer (some ⟨M, 0, none⟩), .pointer (some ⟨S, 0, none⟩)], .func (Fn.func 20) #[] #[.pointer (some ⟨M, 0, none⟩), .pointer (some ⟨S, 0, none⟩)], .int .i8 lvl, .map none] 37)).alloc (.cells #[.int .i32 0, .int .i32 0] 48)).heap.size = w.heap.size + 2 := by simp
  have bb : Below w.heap.size w ((w.alloc (.cells #[.func (Fn.func 15) #[] #[.pointer (some ⟨K, 0, none⟩), .pointer (some ⟨M, 0, none⟩), .pointer (some ⟨E, 0, none⟩), .pointer (some ⟨S, 0, none⟩)], .func (Fn.func 18) #[] #[.pointer (some ⟨M, 0, none⟩), .pointer (some ⟨E, 0, none⟩)], .func (Fn.func 19) #[] #[.pointer (some ⟨M, 0, none⟩), .pointer (some ⟨S, 0, none⟩)], .func (Fn.func 20) #[] #[.pointer (some ⟨M, 0, none⟩), .pointer (some ⟨S, 0, none⟩)], .int .i8 lvl, .map none] 37)).alloc (.cells #[.int .i32 0, .int .i32 0] 48)) := ((Below.refl _ _).alloc (Nat.le_refl _) _).alloc (by simp) _
  have L0 := Lib.hid ((HL.out.alloc (.cells #[.func (Fn.func 15) #[] #[.pointer (some ⟨K, 0, none⟩), .pointer (some ⟨M, 0, none⟩), .pointer (some ⟨E, 0, none⟩), .pointer (some ⟨S, 0, none⟩)], .func (Fn.func 18) #[] #[.pointer (some ⟨M, 0, none⟩), .pointer (some ⟨E, 0, none⟩)], .func (Fn.func 19) #[] #[.pointer (some ⟨M, 0, none⟩), .pointer (some ⟨S, 0, none⟩)], .func (Fn.func 20) #[] #[.pointer (some ⟨M, 0, none⟩), .pointer (some ⟨S, 0, none⟩)], .int .i8 lvl, .map none] 37)).alloc (.cells #[.int .i32 0, .int .i32 0] 48))
  generalize ((w.alloc (.cells #[.func (Fn.func 15) #[] #[.pointer (some ⟨K, 0, none⟩), .pointer (some ⟨M, 0, none⟩), .pointer (some ⟨E, 0, none⟩), .pointer (some ⟨S, 0, none⟩)], .func (Fn.func 18) #[] #[.pointer (some ⟨M, 0, none⟩), .pointer (some ⟨E, 0, none⟩)], .func (Fn.func 19) #[] #[.pointer (some ⟨M, 0, none⟩), .pointer (some ⟨S, 0, none⟩)], .func (Fn.func 20) #[] #[.pointer (some ⟨M, 0, none⟩), .pointer (some ⟨S, 0, none⟩)], .int .i8 lvl, .map none] 37)).alloc (.cells #[.int .i32 0, .int .i32 0] 48)) = w0 at e0 l0 l1 zz bb L0 ⊢
  have D := Lib.hid (dataF tx w0.drew)
  refine wp_region_held_drew (S := fun w' => w'.cell? ⟨w.heap.size, 0, none⟩ = some (.func (Fn.func 15) #[] #[.pointer (some ⟨K, 0, none⟩), .pointer (some ⟨M, 0, none⟩), .pointer (some ⟨E, 0, none⟩), .pointer (some ⟨S, 0, none⟩)]) ∧ w'.cell? ⟨w.heap.size + 1, 0, none⟩ = some (.int .i32 0) ∧ w'.cell? ⟨w.heap.size + 1, 1, none⟩ = some (.int .i32 0)) (by kernel_rfl) ⟨l0, l1⟩ (fun hHeld => ?_)
  refine wpAnyH_take (i := 0) (oi := { dst := some 8, op := Op.fieldAddr 37 (Operand.tmp 4) 0, type := 0, pos := "logger.go:1405", after := #[], guard := none }) (v := ?_) rfl (by kernel_rfl) (by kernel_rfl) (by kernel_rfl) (fun _ _ _ h => h) (Or.inl ⟨by rfl, ?_⟩) (by assumption) ?_
  rotate_left
  · intro wq hSw
    obtain ⟨q1, q2, q3⟩ := hSw
    go_simp
    try (with_reducible rfl)
  try go_frame
  refine wpAnyH_take (i := 1) (oi := { dst := some 9, op := Op.load 30 (Operand.tmp 8), type := 30, pos := "logger.go:1405", after := #[{ on := 0, ground := Ground.data }], guard := none }) (v := ?_) rfl (by kernel_rfl) (by kernel_rfl) (by kernel_rfl) (fun _ _ _ h => h) (Or.inl ⟨by rfl, ?_⟩) (by assumption) ?_
  rotate_left
  · intro wq hSw
    obtain ⟨q1, q2, q3⟩ := hSw
    go_simp
    try (with_reducible rfl)
  try go_frame
  refine wpAnyH_take (i := 2) (oi := { dst := some 10, op := Op.move (Operand.tmp 1), type := 66, pos := "logger.go:1405", after := #[], guard := none }) (v := ?_) rfl (by kernel_rfl) (by kernel_rfl) (by kernel_rfl) (fun _ _ _ h => h) (Or.inl ⟨by rfl, ?_⟩) (by assumption) ?_
  rotate_left
  · intro wq hSw
    obtain ⟨q1, q2, q3⟩ := hSw
    go_simp
    try (with_reducible rfl)
  try go_frame
  refine wpAnyH_take (i := 3) (oi := { dst := some 11, op := Op.load 48 (Operand.tmp 6), type := 48, pos := "logger.go:1405", after := #[], guard := none }) (v := ?_) rfl (by kernel_rfl) (by kernel_rfl) (by kernel_rfl) (fun _ _ _ h => h) (Or.inl ⟨by rfl, ?_⟩) (by assumption) ?_
  rotate_left
  · intro wq hSw
    obtain ⟨q1, q2, q3⟩ := hSw
    go_simp
    try (with_reducible rfl)
  try go_frame
  refine wpAnyH_take (i := 4) (oi := { dst := some 12, op := Op.move (Operand.tmp 3), type := 9, pos := "logger.go:1405", after := #[], guard := none }) (v := ?_) rfl (by kernel_rfl) (by kernel_rfl) (by kernel_rfl) (fun _ _ _ h => h) (Or.inl ⟨by rfl, ?_⟩) (by assumption) ?_
  rotate_left
  · intro wq hSw
    obtain ⟨q1, q2, q3⟩ := hSw
    go_simp
    try (with_reducible rfl)
  try go_frame
  refine wpAnyH_ready (rs := [5]) (by kernel_rfl) (by simp) ?_
  refine AllReadyH.cons rfl (fun K' hK => ?_) AllReadyH.nil
  go_simp
  refine D.out.mono ?_
  rintro e w7 ⟨rfl, hb⟩
  go_simp
  have hz7 : w.heap.size + 2 ≤ w7.heap.size := by rw [← zz]; exact hb.size
  have E7 : ∀ q, q < w.heap.size + 2 → w7.heap[q]? = w0.heap[q]? := fun q h2 => hb.block q (by show q < w0.heap.size; omega)
  have B7 := hb
  have L7 : Hid (Lg w7 K M E S 1 eb base v ms) := Lib.hid (L0.out.kept (by show w0.heap.size ≤ _; omega) (fun q hq => E7 q (by have := HL.out.bs; rcases hq with rfl | rfl | rfl | rfl | hq; (have := HL.out.kb; omega); (have := HL.out.mb; omega); (have := HL.out.eb'; omega); (have := HL.out.sb; omega); (have := (HL.out.row.lt q hq).2; omega))))
  have m0 : w7.cell? ⟨w.heap.size, 0, none⟩ = some (.func (Fn.func 15) #[] #[.pointer (some ⟨K, 0, none⟩), .pointer (some ⟨M, 0, none⟩), .pointer (some ⟨E, 0, none⟩), .pointer (some ⟨S, 0, none⟩)]) := (World.cell?_of_block (E7 w.heap.size (by omega))).trans l0
  have m1 : w7.cell? ⟨w.heap.size + 1, 0, none⟩ = some (.int .i32 0) := (World.cell?_of_block (E7 (w.heap.size + 1) (by omega))).trans l1.1
  have m2 : w7.cell? ⟨w.heap.size + 1, 1, none⟩ = some (.int .i32 0) := (World.cell?_of_block (E7 (w.heap.size + 1) (by omega))).trans l1.2
  refine hK.out _ _ ⟨m0, m1, m2⟩ (fun hHeld => ?_)
  clear hK K' hb
  try go_frame
  refine wpAnyH_take (i := 6) (oi := { dst := some 14, op := Op.build 64 #[(3, Operand.const (Value.int IntKind.u8 0)), (2, Operand.tmp 13)], type := 64, pos := "logger.go:1405", after := #[{ on := 5, ground := Ground.data }], guard := none }) (v := ?_) rfl (by kernel_rfl) (by kernel_rfl) (by kernel_rfl) (fun _ _ _ h => h) (Or.inl ⟨by rfl, ?_⟩) (by assumption) ?_
  rotate_left
  · intro wq hSw
    obtain ⟨q1, q2, q3⟩ := hSw
    go_simp
    try (with_reducible rfl)
  try go_frame
  refine wpAnyH_ready (rs := [7]) (by kernel_rfl) (by simp) ?_
  refine AllReadyH.cons rfl (fun K' hK => ?_) AllReadyH.nil
  go_simp
  refine (add_1_0 K M E S eb base v ms none 0 0 { data := #[] } tx false 0 w7 L7.out hm).mono ?_
  rintro e w8 ⟨rfl, hg, far, bel⟩
  go_simp
  have nb : ∀ q, w.heap.size ≤ q → v.ownBlock ≠ some q := fun q hq e => by have := (HL.out.row.lt q e).2; omega
  have hbs := HL.out.bs
  have h1 := HL.out.mb; have h2 := HL.out.sb; have h3 := HL.out.eb'
  refine hK.out _ _ ⟨(World.cell?_of_block (far w.heap.size (by omega) (by omega) (by omega) (nb _ (by omega)) (by omega))).trans m0, (World.cell?_of_block (far (w.heap.size + 1) (by omega) (by omega) (by omega) (nb _ (by omega)) (by omega))).trans m1, (World.cell?_of_block (far (w.heap.size + 1) (by omega) (by omega) (by omega) (nb _ (by omega)) (by omega))).trans m2⟩ (fun hHeld => ?_)
  clear hK K'
  try go_frame
  have HG : Hid (∃ v', Lg w8 K M E S 1 true base v' (ms ++ [errM tx]) ∧ ∀ q, q < w.heap.size → v.ownBlock ≠ some q → v'.ownBlock ≠ some q) := Lib.hid (by obtain ⟨v', g1, g2⟩ := hg; exact ⟨v', g1, fun q hq => g2 q (by omega)⟩)
  have HB8 : Hid (∀ B, B ≤ M → B ≤ S → B ≤ E → B ≤ base → Below B w w8) := Lib.hid fun B g1 g2 g3 g4 => ((bb.mono (by omega)).trans (((Below.refl B w0).drew).trans (B7.mono (by show B ≤ w0.heap.size; omega)))).trans (bel B g1 g2 g3 g4)
  have HF8 : Hid (∀ q, q ≠ M → q ≠ S → q ≠ E → v.ownBlock ≠ some q → q < w.heap.size → w8.heap[q]? = w.heap[q]?) := Lib.hid fun q g1 g2 g3 g4 g5 => (far q g1 g2 g3 g4 (by omega)).trans ((E7 q (by omega)).trans (e0 q g5))
  clear hg far bel m0 m1 m2 l0 l1 nb
  refine wpAnyH_done (by kernel_rfl) ?_ _
  go_wp2
  go_end0
  exact ⟨rfl, HG.out, HF8.out, HB8.out⟩
end Go.Proofs.YtfjiejndnbnkfaaFmt.Ln
