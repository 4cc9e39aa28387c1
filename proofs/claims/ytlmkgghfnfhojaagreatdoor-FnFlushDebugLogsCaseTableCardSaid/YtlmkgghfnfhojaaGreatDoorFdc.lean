/- allowOverride without overrides, AddIDWithNotes at the kinds 4 (debug) and 5 (verbose): one message more, with the notes handed in. Conditions: the log is free; at most 2^22 messages. -/
import Derived.Test.YtlmkgghfnfhojaaGreatDoorLn
import Derived.Deep.RegionHeld
namespace Go.Proofs.YtlmkgghfnfhojaaGreatDoor.Fdc
open Go.RowKit Go.Deep Go.MuLone Go.Proofs.YtlmkgghfnfhojaaGreatDoor.Base Go.Proofs.YtlmkgghfnfhojaaGreatDoor.Sls Go.Proofs.YtlmkgghfnfhojaaGreatDoor.Lk Go.Proofs.YtlmkgghfnfhojaaGreatDoor.Lm Go.Proofs.YtlmkgghfnfhojaaGreatDoor.Ln
set_option linter.unusedVariables false
theorem allow29 (id kd : Int) (h0 : 0 ≤ id) (h1 : id ≤ 255) (w : World) : Calls Tryz.prog 29 #[.map none, .int .u8 id, .int .u8 kd] w fun e w' => e = .returned (.tuple #[.int .u8 kd, .bool true]) ∧ w = w' := by
  have hlk : ∀ wz : World, (Instr.lookup 55 (.map none) (.int .u8 id) true).run Tryz.prog wz = .ok (.tuple #[.int .i8 0, .bool false]) wz := fun wz => by kernel_rfl
  go_enter Tryz.func29, Tryz.ntmps29
  go_wp2
  go_returns
  exact ⟨rfl, rfl⟩
set_option maxRecDepth 20000 in
set_option maxHeartbeats 2000000 in
theorem id25_4 (K M E S : Nat) (lvl : Int) (eb : Bool) (base : Nat) (v : Value) (ms : List Ms) (tx : ByteArray) (nA : Option Addr) (nn nc : Nat) (w : World) (h : Lg w K M E S 0 eb base v ms) (hm : ms.length < 4194304) :
    Calls Tryz.prog 25 #[logv K M E S lvl, .int .u8 0, .int .u8 4, .pointer none, .agg #[.int .i32 0, .int .i32 0], .string tx, .slice nA nn nc] w fun e w' => e = .returned (.tuple #[]) ∧ (∃ v', Lg w' K M E S 0 eb base v' (ms ++ [⟨nA, nn, nc, { data := #[] }, tx, false, 4, 0⟩]) ∧ ∀ q, q < w.heap.size → v.ownBlock ≠ some q → v'.ownBlock ≠ some q) ∧ (∀ q, q ≠ M → q ≠ S → q ≠ E → v.ownBlock ≠ some q → q < w.heap.size → w'.heap[q]? = w.heap[q]?) ∧ ∀ B, B ≤ M → B ≤ S → B ≤ E → B ≤ base → Below B w w' := by
  have HL := Lib.hid h
  have A := Lib.hid (fun w' => allow29 0 4 (by decide) (by decide) w')
  clear h
  unfold logv ptr
  go_enter Tryz.func25, Tryz.ntmps25
  go_wp2_with (first | (go_at_call 29; refine (A.out _).mono ?_; rintro e w7 ⟨rfl, rfl⟩) | fail)
  have e0 : ∀ q, q < w.heap.size → ((w.alloc (.cells #[.func (Fn.func 18) #[] #[.pointer (some ⟨K, 0, none⟩), .pointer (some ⟨M, 0, none⟩), .pointer (some ⟨E, 0, none⟩), .pointer (some ⟨S, 0, none⟩)], .func (Fn.func 21) #[] #[.pointer (some ⟨M, 0, none⟩), .pointer (some ⟨E, 0, none⟩)], .func (Fn.func 22) #[] #[.pointer (some ⟨M, 0, none⟩), .pointer (some ⟨S, 0, none⟩)], .func (Fn.func 23) #[] #[.pointer (some ⟨M, 0, none⟩), .pointer (some ⟨S, 0, none⟩)], .int .i8 lvl, .map none] 57)).alloc (.cells #[.int .i32 0, .int .i32 0] 71)).heap[q]? = w.heap[q]? := fun q hq => (blk_alloc_lt _ _ _ (by simp; omega)).trans (blk_alloc_lt _ _ _ hq)
  have l0 : ((w.alloc (.cells #[.func (Fn.func 18) #[] #[.pointer (some ⟨K, 0, none⟩), .pointer (some ⟨M, 0, none⟩), .pointer (some ⟨E, 0, none⟩), .pointer (some ⟨S, 0, none⟩)], .func (Fn.func 21) #[] #[.pointer (some ⟨M, 0, none⟩), .pointer (some ⟨E, 0, none⟩)], .func (Fn.func 22) #[] #[.pointer (some ⟨M, 0, none⟩), .pointer (some ⟨S, 0, none⟩)], .func (Fn.func 23) #[] #[.pointer (some ⟨M, 0, none⟩), .pointer (some ⟨S, 0, none⟩)], .int .i8 lvl, .map none] 57)).alloc (.cells #[.int .i32 0, .int .i32 0] 71)).cell? ⟨w.heap.size, 0, none⟩ = some (.func (Fn.func 18) #[] #[.pointer (some ⟨K, 0, none⟩), .pointer (some ⟨M, 0, none⟩), .pointer (some ⟨E, 0, none⟩), .pointer (some ⟨S, 0, none⟩)]) := by go_simp
  have l1 : ((w.alloc (.cells #[.func (Fn.func 18) #[] #[.pointer (some ⟨K, 0, none⟩), .pointer (some ⟨M, 0, none⟩), .pointer (some ⟨E, 0, none⟩), .pointer (some ⟨S, 0, none⟩)], .func (Fn.func 21) #[] #[.pointer (some ⟨M, 0, none⟩), .pointer (some ⟨E, 0, none⟩)], .func (Fn.func 22) #[] #[.pointer (some ⟨M, 0, none⟩), .pointer (some ⟨S, 0, none⟩)], .func (Fn.func 23) #[] #[.pointer (some ⟨M, 0, none⟩), .pointer (some ⟨S, 0, none⟩)], .int .i8 lvl, .map none] 57)).alloc (.cells #[.int .i32 0, .int .i32 0] 71)).cell? ⟨w.heap.size + 1, 0, none⟩ = some (.int .i32 0) ∧ ((w.alloc (.cells #[.func (Fn.func 18) #[] #[.pointer (some ⟨K, 0, none⟩), .pointer (some ⟨M, 0, none⟩), .pointer (some ⟨E, 0, none⟩), .pointer (some ⟨S, 0, none⟩)], .func (Fn.func 21) #[] #[.pointer (some ⟨M, 0, none⟩), .pointer (some ⟨E, 0, none⟩)], .func (Fn.func 22) #[] #[.pointer (some ⟨M, 0, none⟩), .pointer (some ⟨S, 0, none⟩)], .func (Fn.func 23) #[] #[.pointer (some ⟨M, 0, none⟩), .pointer (some ⟨S, 0, none⟩)], .int .i8 lvl, .map none] 57)).alloc (.cells #[.int .i32 0, .int .i32 0] 71)).cell? ⟨w.heap.size + 1, 1, none⟩ = some (.int .i32 0) := by constructor <;> go_simp
  have zz : ((w.alloc (.cells #[.func (Fn.func 18) #[] #[.pointer (some ⟨K, 0, none⟩), .pointer (some ⟨M, 0, none⟩), .pointer (some ⟨E, 0, none⟩), .pointer (some ⟨S, 0, none⟩)], .func (Fn.func 21) #[] #[.pointer (some ⟨M, 0, none⟩), .pointer (some ⟨E, 0, none⟩)], .func (Fn.func 22) #[] #[.pointer (some ⟨M, 0, none⟩), .pointer (some ⟨S, 0, none⟩)], .func (Fn.func 23) #[] #[.pointer (some ⟨M, 0, none⟩), .pointer (some ⟨S, 0, none⟩)], .int .i8 lvl, .map none] 57)).alloc (.cells #[.int .i32 0, .int .i32 0] 71)).heap.size = w.heap.size + 2 := by simp
  have bb : Below w.heap.size w ((w.alloc (.cells #[.func (Fn.func 18) #[] #[.pointer (some ⟨K, 0, none⟩), .pointer (some ⟨M, 0, none⟩), .pointer (some ⟨E, 0, none⟩), .pointer (some ⟨S, 0, none⟩)], .func (Fn.func 21) #[] #[.pointer (some ⟨M, 0, none⟩), .pointer (some ⟨E, 0, none⟩)], .func (Fn.func 22) #[] #[.pointer (some ⟨M, 0, none⟩), .pointer (some ⟨S, 0, none⟩)], .func (Fn.func 23) #[] #[.pointer (some ⟨M, 0, none⟩), .pointer (some ⟨S, 0, none⟩)], .int .i8 lvl, .map none] 57)).alloc (.cells #[.int .i32 0, .int .i32 0] 71)) := ((Below.refl _ _).alloc (Nat.le_refl _) _).alloc (by simp) _
  have L0 := Lib.hid ((HL.out.alloc (.cells #[.func (Fn.func 18) #[] #[.pointer (some ⟨K, 0, none⟩), .pointer (some ⟨M, 0, none⟩), .pointer (some ⟨E, 0, none⟩), .pointer (some ⟨S, 0, none⟩)], .func (Fn.func 21) #[] #[.pointer (some ⟨M, 0, none⟩), .pointer (some ⟨E, 0, none⟩)], .func (Fn.func 22) #[] #[.pointer (some ⟨M, 0, none⟩), .pointer (some ⟨S, 0, none⟩)], .func (Fn.func 23) #[] #[.pointer (some ⟨M, 0, none⟩), .pointer (some ⟨S, 0, none⟩)], .int .i8 lvl, .map none] 57)).alloc (.cells #[.int .i32 0, .int .i32 0] 71))
  generalize (w.alloc (.cells #[.func (Fn.func 18) #[] #[.pointer (some ⟨K, 0, none⟩), .pointer (some ⟨M, 0, none⟩), .pointer (some ⟨E, 0, none⟩), .pointer (some ⟨S, 0, none⟩)], .func (Fn.func 21) #[] #[.pointer (some ⟨M, 0, none⟩), .pointer (some ⟨E, 0, none⟩)], .func (Fn.func 22) #[] #[.pointer (some ⟨M, 0, none⟩), .pointer (some ⟨S, 0, none⟩)], .func (Fn.func 23) #[] #[.pointer (some ⟨M, 0, none⟩), .pointer (some ⟨S, 0, none⟩)], .int .i8 lvl, .map none] 57)).alloc (.cells #[.int .i32 0, .int .i32 0] 71) = w0 at e0 l0 l1 zz bb L0 ⊢
  have D := Lib.hid (dataF tx w0.drew)
  clear A
  refine wp_region_held_drew (S := fun w' => w'.cell? ⟨w.heap.size, 0, none⟩ = some (.func (Fn.func 18) #[] #[.pointer (some ⟨K, 0, none⟩), .pointer (some ⟨M, 0, none⟩), .pointer (some ⟨E, 0, none⟩), .pointer (some ⟨S, 0, none⟩)]) ∧ w'.cell? ⟨w.heap.size + 1, 0, none⟩ = some (.int .i32 0) ∧ w'.cell? ⟨w.heap.size + 1, 1, none⟩ = some (.int .i32 0)) (by kernel_rfl) ⟨l0, l1⟩ (fun hHeld => ?_)
  refine wpAnyH_take (i := 0) (oi := { dst := some 25, op := Op.fieldAddr 57 (Operand.tmp 7) 0, type := 0, pos := "logger.go:1431", after := #[], guard := none }) (v := ?_) rfl (by kernel_rfl) (by kernel_rfl) (by kernel_rfl) (fun _ _ _ h => h) (Or.inl ⟨by rfl, ?_⟩) (by assumption) ?_
  rotate_left
  · intro wq hSw
    obtain ⟨q1, q2, q3⟩ := hSw
    go_simp
    try (with_reducible rfl)
  try go_frame
  refine wpAnyH_take (i := 1) (oi := { dst := some 26, op := Op.load 52 (Operand.tmp 25), type := 52, pos := "logger.go:1431", after := #[{ on := 0, ground := Ground.data }], guard := none }) (v := ?_) rfl (by kernel_rfl) (by kernel_rfl) (by kernel_rfl) (fun _ _ _ h => h) (Or.inl ⟨by rfl, ?_⟩) (by assumption) ?_
  rotate_left
  · intro wq hSw
    obtain ⟨q1, q2, q3⟩ := hSw
    go_simp
    try (with_reducible rfl)
  try go_frame
  refine wpAnyH_take (i := 2) (oi := { dst := some 27, op := Op.move (Operand.tmp 1), type := 5, pos := "logger.go:1431", after := #[], guard := none }) (v := ?_) rfl (by kernel_rfl) (by kernel_rfl) (by kernel_rfl) (fun _ _ _ h => h) (Or.inl ⟨by rfl, ?_⟩) (by assumption) ?_
  rotate_left
  · intro wq hSw
    obtain ⟨q1, q2, q3⟩ := hSw
    go_simp
    try (with_reducible rfl)
  try go_frame
  refine wpAnyH_take (i := 3) (oi := { dst := some 28, op := Op.move (Operand.tmp 14), type := 46, pos := "logger.go:1431", after := #[], guard := none }) (v := ?_) rfl (by kernel_rfl) (by kernel_rfl) (by kernel_rfl) (fun _ _ _ h => h) (Or.inl ⟨by rfl, ?_⟩) (by assumption) ?_
  rotate_left
  · intro wq hSw
    obtain ⟨q1, q2, q3⟩ := hSw
    go_simp
    try (with_reducible rfl)
  try go_frame
  refine wpAnyH_take (i := 4) (oi := { dst := some 29, op := Op.move (Operand.tmp 3), type := 140, pos := "logger.go:1431", after := #[], guard := none }) (v := ?_) rfl (by kernel_rfl) (by kernel_rfl) (by kernel_rfl) (fun _ _ _ h => h) (Or.inl ⟨by rfl, ?_⟩) (by assumption) ?_
  rotate_left
  · intro wq hSw
    obtain ⟨q1, q2, q3⟩ := hSw
    go_simp
    try (with_reducible rfl)
  try go_frame
  refine wpAnyH_take (i := 5) (oi := { dst := some 30, op := Op.load 71 (Operand.tmp 11), type := 71, pos := "logger.go:1431", after := #[], guard := none }) (v := ?_) rfl (by kernel_rfl) (by kernel_rfl) (by kernel_rfl) (fun _ _ _ h => h) (Or.inl ⟨by rfl, ?_⟩) (by assumption) ?_
  rotate_left
  · intro wq hSw
    obtain ⟨q1, q2, q3⟩ := hSw
    go_simp
    try (with_reducible rfl)
  try go_frame
  refine wpAnyH_take (i := 6) (oi := { dst := some 31, op := Op.move (Operand.tmp 5), type := 9, pos := "logger.go:1431", after := #[], guard := none }) (v := ?_) rfl (by kernel_rfl) (by kernel_rfl) (by kernel_rfl) (fun _ _ _ h => h) (Or.inl ⟨by rfl, ?_⟩) (by assumption) ?_
  rotate_left
  · intro wq hSw
    obtain ⟨q1, q2, q3⟩ := hSw
    go_simp
    try (with_reducible rfl)
  try go_frame
  refine wpAnyH_take (i := 8) (oi := { dst := some 33, op := Op.move (Operand.tmp 6), type := 42, pos := "logger.go:1431", after := #[], guard := none }) (v := ?_) rfl (by kernel_rfl) (by kernel_rfl) (by kernel_rfl) (fun _ _ _ h => h) (Or.inl ⟨by rfl, ?_⟩) (by assumption) ?_
  rotate_left
  · intro wq hSw
    obtain ⟨q1, q2, q3⟩ := hSw
    go_simp
    try (with_reducible rfl)
  try go_frame
  refine wpAnyH_ready (rs := [7]) (by kernel_rfl) (by simp) ?_
  refine AllReadyH.cons rfl (fun K' hK => ?_) AllReadyH.nil
  go_simp
  refine D.out.mono ?_
  rintro e w7 ⟨rfl, hb⟩
  go_simp
  have hz7 : w.heap.size + 2 ≤ w7.heap.size := by rw [← zz]; exact hb.size
  have E7 : ∀ q, q < w.heap.size + 2 → w7.heap[q]? = w0.heap[q]? := fun q h2 => hb.block q (by show q < w0.heap.size; omega)
  have B7 := hb
  have L7 : Hid (Lg w7 K M E S 0 eb base v ms) := Lib.hid (L0.out.kept (by show w0.heap.size ≤ _; omega) (fun q hq => E7 q (by have := HL.out.bs; rcases hq with rfl | rfl | rfl | rfl | hq; (have := HL.out.kb; omega); (have := HL.out.mb; omega); (have := HL.out.eb'; omega); (have := HL.out.sb; omega); (have := (HL.out.row.lt q hq).2; omega))))
  have m0 : w7.cell? ⟨w.heap.size, 0, none⟩ = some (.func (Fn.func 18) #[] #[.pointer (some ⟨K, 0, none⟩), .pointer (some ⟨M, 0, none⟩), .pointer (some ⟨E, 0, none⟩), .pointer (some ⟨S, 0, none⟩)]) := (World.cell?_of_block (E7 w.heap.size (by omega))).trans l0
  have m1 : w7.cell? ⟨w.heap.size + 1, 0, none⟩ = some (.int .i32 0) := (World.cell?_of_block (E7 (w.heap.size + 1) (by omega))).trans l1.1
  have m2 : w7.cell? ⟨w.heap.size + 1, 1, none⟩ = some (.int .i32 0) := (World.cell?_of_block (E7 (w.heap.size + 1) (by omega))).trans l1.2
  refine hK.out _ _ ⟨m0, m1, m2⟩ (fun hHeld => ?_)
  clear hK K' hb
  try go_frame
  refine wpAnyH_take (i := 9) (oi := { dst := some 34, op := Op.build 48 #[(4, Operand.tmp 27), (3, Operand.tmp 28), (2, Operand.tmp 32), (0, Operand.tmp 33)], type := 48, pos := "logger.go:1431", after := #[{ on := 2, ground := Ground.data }, { on := 3, ground := Ground.data }, { on := 7, ground := Ground.data }, { on := 8, ground := Ground.data }], guard := none }) (v := ?_) rfl (by kernel_rfl) (by kernel_rfl) (by kernel_rfl) (fun _ _ _ h => h) (Or.inl ⟨by rfl, ?_⟩) (by assumption) ?_
  rotate_left
  · intro wq hSw
    obtain ⟨q1, q2, q3⟩ := hSw
    go_simp
    try (with_reducible rfl)
  try go_frame
  refine wpAnyH_ready (rs := [10]) (by kernel_rfl) (by simp) ?_
  refine AllReadyH.cons rfl (fun K' hK => ?_) AllReadyH.nil
  go_simp
  refine (add_0_4 K M E S eb base v ms nA nn nc { data := #[] } tx false 0 w7 L7.out hm).mono ?_
  rintro e w8 ⟨rfl, hg, far, bel⟩
  go_simp
  have nb : ∀ q, w.heap.size ≤ q → v.ownBlock ≠ some q := fun q hq e => by have := (HL.out.row.lt q e).2; omega
  have hbs := HL.out.bs
  have h1 := HL.out.mb; have h2 := HL.out.sb; have h3 := HL.out.eb'
  refine hK.out _ _ ⟨(World.cell?_of_block (far w.heap.size (by omega) (by omega) (by omega) (nb _ (by omega)) (by omega))).trans m0, (World.cell?_of_block (far (w.heap.size + 1) (by omega) (by omega) (by omega) (nb _ (by omega)) (by omega))).trans m1, (World.cell?_of_block (far (w.heap.size + 1) (by omega) (by omega) (by omega) (nb _ (by omega)) (by omega))).trans m2⟩ (fun hHeld => ?_)
  clear hK K'
  try go_frame
  have HG : Hid (∃ v', Lg w8 K M E S 0 eb base v' (ms ++ [⟨nA, nn, nc, { data := #[] }, tx, false, 4, 0⟩]) ∧ ∀ q, q < w.heap.size → v.ownBlock ≠ some q → v'.ownBlock ≠ some q) := Lib.hid (by obtain ⟨v', g1, g2⟩ := hg; exact ⟨v', g1, fun q hq => g2 q (by omega)⟩)
  have HB8 : Hid (∀ B, B ≤ M → B ≤ S → B ≤ E → B ≤ base → Below B w w8) := Lib.hid fun B g1 g2 g3 g4 => ((bb.mono (by omega)).trans (((Below.refl B w0).drew).trans (B7.mono (by show B ≤ w0.heap.size; omega)))).trans (bel B g1 g2 g3 g4)
  have HF8 : Hid (∀ q, q ≠ M → q ≠ S → q ≠ E → v.ownBlock ≠ some q → q < w.heap.size → w8.heap[q]? = w.heap[q]?) := Lib.hid fun q g1 g2 g3 g4 g5 => (far q g1 g2 g3 g4 (by omega)).trans ((E7 q (by omega)).trans (e0 q g5))
  clear hg far bel m0 m1 m2 l0 l1 nb
  refine wpAnyH_done (by kernel_rfl) ?_ _
  go_wp2
  go_end0
  exact ⟨rfl, HG.out, HF8.out, HB8.out⟩
set_option maxRecDepth 20000 in
set_option maxHeartbeats 2000000 in
theorem id25_5 (K M E S : Nat) (lvl : Int) (eb : Bool) (base : Nat) (v : Value) (ms : List Ms) (tx : ByteArray) (nA : Option Addr) (nn nc : Nat) (w : World) (h : Lg w K M E S 0 eb base v ms) (hm : ms.length < 4194304) :
    Calls Tryz.prog 25 #[logv K M E S lvl, .int .u8 0, .int .u8 5, .pointer none, .agg #[.int .i32 0, .int .i32 0], .string tx, .slice nA nn nc] w fun e w' => e = .returned (.tuple #[]) ∧ (∃ v', Lg w' K M E S 0 eb base v' (ms ++ [⟨nA, nn, nc, { data := #[] }, tx, false, 5, 0⟩]) ∧ ∀ q, q < w.heap.size → v.ownBlock ≠ some q → v'.ownBlock ≠ some q) ∧ (∀ q, q ≠ M → q ≠ S → q ≠ E → v.ownBlock ≠ some q → q < w.heap.size → w'.heap[q]? = w.heap[q]?) ∧ ∀ B, B ≤ M → B ≤ S → B ≤ E → B ≤ base → Below B w w' := by
  have HL := Lib.hid h
  have A := Lib.hid (fun w' => allow29 0 5 (by decide) (by decide) w')
  clear h
  unfold logv ptr
  go_enter Tryz.func25, Tryz.ntmps25
  go_wp2_with (first | (go_at_call 29; refine (A.out _).mono ?_; rintro e w7 ⟨rfl, rfl⟩) | fail)
  have e0 : ∀ q, q < w.heap.size → ((w.alloc (.cells #[.func (Fn.func 18) #[] #[.pointer (some ⟨K, 0, none⟩), .pointer (some ⟨M, 0, none⟩), .pointer (some ⟨E, 0, none⟩), .pointer (some ⟨S, 0, none⟩)], .func (Fn.func 21) #[] #[.pointer (some ⟨M, 0, none⟩), .pointer (some ⟨E, 0, none⟩)], .func (Fn.func 22) #[] #[.pointer (some ⟨M, 0, none⟩), .pointer (some ⟨S, 0, none⟩)], .func (Fn.func 23) #[] #[.pointer (some ⟨M, 0, none⟩), .pointer (some ⟨S, 0, none⟩)], .int .i8 lvl, .map none] 57)).alloc (.cells #[.int .i32 0, .int .i32 0] 71)).heap[q]? = w.heap[q]? := fun q hq => (blk_alloc_lt _ _ _ (by simp; omega)).trans (blk_alloc_lt _ _ _ hq)
  have l0 : ((w.alloc (.cells #[.func (Fn.func 18) #[] #[.pointer (some ⟨K, 0, none⟩), .pointer (some ⟨M, 0, none⟩), .pointer (some ⟨E, 0, none⟩), .pointer (some ⟨S, 0, none⟩)], .func (Fn.func 21) #[] #[.pointer (some ⟨M, 0, none⟩), .pointer (some ⟨E, 0, none⟩)], .func (Fn.func 22) #[] #[.pointer (some ⟨M, 0, none⟩), .pointer (some ⟨S, 0, none⟩)], .func (Fn.func 23) #[] #[.pointer (some ⟨M, 0, none⟩), .pointer (some ⟨S, 0, none⟩)], .int .i8 lvl, .map none] 57)).alloc (.cells #[.int .i32 0, .int .i32 0] 71)).cell? ⟨w.heap.size, 0, none⟩ = some (.func (Fn.func 18) #[] #[.pointer (some ⟨K, 0, none⟩), .pointer (some ⟨M, 0, none⟩), .pointer (some ⟨E, 0, none⟩), .pointer (some ⟨S, 0, none⟩)]) := by go_simp
  have l1 : ((w.alloc (.cells #[.func (Fn.func 18) #[] #[.pointer (some ⟨K, 0, none⟩), .pointer (some ⟨M, 0, none⟩), .pointer (some ⟨E, 0, none⟩), .pointer (some ⟨S, 0, none⟩)], .func (Fn.func 21) #[] #[.pointer (some ⟨M, 0, none⟩), .pointer (some ⟨E, 0, none⟩)], .func (Fn.func 22) #[] #[.pointer (some ⟨M, 0, none⟩), .pointer (some ⟨S, 0, none⟩)], .func (Fn.func 23) #[] #[.pointer (some ⟨M, 0, none⟩), .pointer (some ⟨S, 0, none⟩)], .int .i8 lvl, .map none] 57)).alloc (.cells #[.int .i32 0, .int .i32 0] 71)).cell? ⟨w.heap.size + 1, 0, none⟩ = some (.int .i32 0) ∧ ((w.alloc (.cells #[.func (Fn.func 18) #[] #[.pointer (some ⟨K, 0, none⟩), .pointer (some ⟨M, 0, none⟩), .pointer (some ⟨E, 0, none⟩), .pointer (some ⟨S, 0, none⟩)], .func (Fn.func 21) #[] #[.pointer (some ⟨M, 0, none⟩), .pointer (some ⟨E, 0, none⟩)], .func (Fn.func 22) #[] #[.pointer (some ⟨M, 0, none⟩), .pointer (some ⟨S, 0, none⟩)], .func (Fn.func 23) #[] #[.pointer (some ⟨M, 0, none⟩), .pointer (some ⟨S, 0, none⟩)], .int .i8 lvl, .map none] 57)).alloc (.cells #[.int .i32 0, .int .i32 0] 71)).cell? ⟨w.heap.size + 1, 1, none⟩ = some (.int .i32 0) := by constructor <;> go_simp
  have zz : ((w.alloc (.cells #[.func (Fn.func 18) #[] #[.pointer (some ⟨K, 0, none⟩), .pointer (some ⟨M, 0, none⟩), .pointer (some ⟨E, 0, none⟩), .pointer (some ⟨S, 0, none⟩)], .func (Fn.func 21) #[] #[.pointer (some ⟨M, 0, none⟩), .pointer (some ⟨E, 0, none⟩)], .func (Fn.func 22) #[] #[.pointer (some ⟨M, 0, none⟩), .pointer (some ⟨S, 0, none⟩)], .func (Fn.func 23) #[] #[.pointer (some ⟨M, 0, none⟩), .pointer (some ⟨S, 0, none⟩)], .int .i8 lvl, .map none] 57)).alloc (.cells #[.int .i32 0, .int .i32 0] 71)).heap.size = w.heap.size + 2 := by simp
  have bb : Below w.heap.size w ((w.alloc (.cells #[.func (Fn.func 18) #[] #[.pointer (some ⟨K, 0, none⟩), .pointer (some ⟨M, 0, none⟩), .pointer (some ⟨E, 0, none⟩), .pointer (some ⟨S, 0, none⟩)], .func (Fn.func 21) #[] #[.pointer (some ⟨M, 0, none⟩), .pointer (some ⟨E, 0, none⟩)], .func (Fn.func 22) #[] #[.pointer (some ⟨M, 0, none⟩), .pointer (some ⟨S, 0, none⟩)], .func (Fn.func 23) #[] #[.pointer (some ⟨M, 0, none⟩), .pointer (some ⟨S, 0, none⟩)], .int .i8 lvl, .map none] 57)).alloc (.cells #[.int .i32 0, .int .i32 0] 71)) := ((Below.refl _ _).alloc (Nat.le_refl _) _).alloc (by simp) _
  have L0 := Lib.hid ((HL.out.alloc (.cells #[.func (Fn.func 18) #[] #[.pointer (some ⟨K, 0, none⟩), .pointer (some ⟨M, 0, none⟩), .pointer (some ⟨E, 0, none⟩), .pointer (some ⟨S, 0, none⟩)], .func (Fn.func 21) #[] #[.pointer (some ⟨M, 0, none⟩), .pointer (some ⟨E, 0, none⟩)], .func (Fn.func 22) #[] #[.pointer (some ⟨M, 0, none⟩), .pointer (some ⟨S, 0, none⟩)], .func (Fn.func 23) #[] #[.pointer (some ⟨M, 0, none⟩), .pointer (some ⟨S, 0, none⟩)], .int .i8 lvl, .map none] 57)).alloc (.cells #[.int .i32 0, .int .i32 0] 71))
  generalize (w.alloc (.cells #[.func (Fn.func 18) #[] #[.pointer (some ⟨K, 0, none⟩), .pointer (some ⟨M, 0, none⟩), .pointer (some ⟨E, 0, none⟩), .pointer (some ⟨S, 0, none⟩)], .func (Fn.func 21) #[] #[.pointer (some ⟨M, 0, none⟩), .pointer (some ⟨E, 0, none⟩)], .func (Fn.func 22) #[] #[.pointer (some ⟨M, 0, none⟩), .pointer (some ⟨S, 0, none⟩)], .func (Fn.func 23) #[] #[.pointer (some ⟨M, 0, none⟩), .pointer (some ⟨S, 0, none⟩)], .int .i8 lvl, .map none] 57)).alloc (.cells #[.int .i32 0, .int .i32 0] 71) = w0 at e0 l0 l1 zz bb L0 ⊢
  have D := Lib.hid (dataF tx w0.drew)
  clear A
  refine wp_region_held_drew (S := fun w' => w'.cell? ⟨w.heap.size, 0, none⟩ = some (.func (Fn.func 18) #[] #[.pointer (some ⟨K, 0, none⟩), .pointer (some ⟨M, 0, none⟩), .pointer (some ⟨E, 0, none⟩), .pointer (some ⟨S, 0, none⟩)]) ∧ w'.cell? ⟨w.heap.size + 1, 0, none⟩ = some (.int .i32 0) ∧ w'.cell? ⟨w.heap.size + 1, 1, none⟩ = some (.int .i32 0)) (by kernel_rfl) ⟨l0, l1⟩ (fun hHeld => ?_)
  refine wpAnyH_take (i := 0) (oi := { dst := some 25, op := Op.fieldAddr 57 (Operand.tmp 7) 0, type := 0, pos := "logger.go:1431", after := #[], guard := none }) (v := ?_) rfl (by kernel_rfl) (by kernel_rfl) (by kernel_rfl) (fun _ _ _ h => h) (Or.inl ⟨by rfl, ?_⟩) (by assumption) ?_
  rotate_left
  · intro wq hSw
    obtain ⟨q1, q2, q3⟩ := hSw
    go_simp
    try (with_reducible rfl)
  try go_frame
  refine wpAnyH_take (i := 1) (oi := { dst := some 26, op := Op.load 52 (Operand.tmp 25), type := 52, pos := "logger.go:1431", after := #[{ on := 0, ground := Ground.data }], guard := none }) (v := ?_) rfl (by kernel_rfl) (by kernel_rfl) (by kernel_rfl) (fun _ _ _ h => h) (Or.inl ⟨by rfl, ?_⟩) (by assumption) ?_
  rotate_left
  · intro wq hSw
    obtain ⟨q1, q2, q3⟩ := hSw
    go_simp
    try (with_reducible rfl)
  try go_frame
  refine wpAnyH_take (i := 2) (oi := { dst := some 27, op := Op.move (Operand.tmp 1), type := 5, pos := "logger.go:1431", after := #[], guard := none }) (v := ?_) rfl (by kernel_rfl) (by kernel_rfl) (by kernel_rfl) (fun _ _ _ h => h) (Or.inl ⟨by rfl, ?_⟩) (by assumption) ?_
  rotate_left
  · intro wq hSw
    obtain ⟨q1, q2, q3⟩ := hSw
    go_simp
    try (with_reducible rfl)
  try go_frame
  refine wpAnyH_take (i := 3) (oi := { dst := some 28, op := Op.move (Operand.tmp 14), type := 46, pos := "logger.go:1431", after := #[], guard := none }) (v := ?_) rfl (by kernel_rfl) (by kernel_rfl) (by kernel_rfl) (fun _ _ _ h => h) (Or.inl ⟨by rfl, ?_⟩) (by assumption) ?_
  rotate_left
  · intro wq hSw
    obtain ⟨q1, q2, q3⟩ := hSw
    go_simp
    try (with_reducible rfl)
  try go_frame
  refine wpAnyH_take (i := 4) (oi := { dst := some 29, op := Op.move (Operand.tmp 3), type := 140, pos := "logger.go:1431", after := #[], guard := none }) (v := ?_) rfl (by kernel_rfl) (by kernel_rfl) (by kernel_rfl) (fun _ _ _ h => h) (Or.inl ⟨by rfl, ?_⟩) (by assumption) ?_
  rotate_left
  · intro wq hSw
    obtain ⟨q1, q2, q3⟩ := hSw
    go_simp
    try (with_reducible rfl)
  try go_frame
  refine wpAnyH_take (i := 5) (oi := { dst := some 30, op := Op.load 71 (Operand.tmp 11), type := 71, pos := "logger.go:1431", after := #[], guard := none }) (v := ?_) rfl (by kernel_rfl) (by kernel_rfl) (by kernel_rfl) (fun _ _ _ h => h) (Or.inl ⟨by rfl, ?_⟩) (by assumption) ?_
  rotate_left
  · intro wq hSw
    obtain ⟨q1, q2, q3⟩ := hSw
    go_simp
    try (with_reducible rfl)
  try go_frame
  refine wpAnyH_take (i := 6) (oi := { dst := some 31, op := Op.move (Operand.tmp 5), type := 9, pos := "logger.go:1431", after := #[], guard := none }) (v := ?_) rfl (by kernel_rfl) (by kernel_rfl) (by kernel_rfl) (fun _ _ _ h => h) (Or.inl ⟨by rfl, ?_⟩) (by assumption) ?_
  rotate_left
  · intro wq hSw
    obtain ⟨q1, q2, q3⟩ := hSw
    go_simp
    try (with_reducible rfl)
  try go_frame
  refine wpAnyH_take (i := 8) (oi := { dst := some 33, op := Op.move (Operand.tmp 6), type := 42, pos := "logger.go:1431", after := #[], guard := none }) (v := ?_) rfl (by kernel_rfl) (by kernel_rfl) (by kernel_rfl) (fun _ _ _ h => h) (Or.inl ⟨by rfl, ?_⟩) (by assumption) ?_
  rotate_left
  · intro wq hSw
    obtain ⟨q1, q2, q3⟩ := hSw
    go_simp
    try (with_reducible rfl)
  try go_frame
  refine wpAnyH_ready (rs := [7]) (by kernel_rfl) (by simp) ?_
  refine AllReadyH.cons rfl (fun K' hK => ?_) AllReadyH.nil
  go_simp
  refine D.out.mono ?_
  rintro e w7 ⟨rfl, hb⟩
  go_simp
  have hz7 : w.heap.size + 2 ≤ w7.heap.size := by rw [← zz]; exact hb.size
  have E7 : ∀ q, q < w.heap.size + 2 → w7.heap[q]? = w0.heap[q]? := fun q h2 => hb.block q (by show q < w0.heap.size; omega)
  have B7 := hb
  have L7 : Hid (Lg w7 K M E S 0 eb base v ms) := Lib.hid (L0.out.kept (by show w0.heap.size ≤ _; omega) (fun q hq => E7 q (by have := HL.out.bs; rcases hq with rfl | rfl | rfl | rfl | hq; (have := HL.out.kb; omega); (have := HL.out.mb; omega); (have := HL.out.eb'; omega); (have := HL.out.sb; omega); (have := (HL.out.row.lt q hq).2; omega))))
  have m0 : w7.cell? ⟨w.heap.size, 0, none⟩ = some (.func (Fn.func 18) #[] #[.pointer (some ⟨K, 0, none⟩), .pointer (some ⟨M, 0, none⟩), .pointer (some ⟨E, 0, none⟩), .pointer (some ⟨S, 0, none⟩)]) := (World.cell?_of_block (E7 w.heap.size (by omega))).trans l0
  have m1 : w7.cell? ⟨w.heap.size + 1, 0, none⟩ = some (.int .i32 0) := (World.cell?_of_block (E7 (w.heap.size + 1) (by omega))).trans l1.1
  have m2 : w7.cell? ⟨w.heap.size + 1, 1, none⟩ = some (.int .i32 0) := (World.cell?_of_block (E7 (w.heap.size + 1) (by omega))).trans l1.2
  refine hK.out _ _ ⟨m0, m1, m2⟩ (fun hHeld => ?_)
  clear hK K' hb
  try go_frame
  refine wpAnyH_take (i := 9) (oi := { dst := some 34, op := Op.build 48 #[(4, Operand.tmp 27), (3, Operand.tmp 28), (2, Operand.tmp 32), (0, Operand.tmp 33)], type := 48, pos := "logger.go:1431", after := #[{ on := 2, ground := Ground.data }, { on := 3, ground := Ground.data }, { on := 7, ground := Ground.data }, { on := 8, ground := Ground.data }], guard := none }) (v := ?_) rfl (by kernel_rfl) (by kernel_rfl) (by kernel_rfl) (fun _ _ _ h => h) (Or.inl ⟨by rfl, ?_⟩) (by assumption) ?_
  rotate_left
  · intro wq hSw
    obtain ⟨q1, q2, q3⟩ := hSw
    go_simp
    try (with_reducible rfl)
  try go_frame
  refine wpAnyH_ready (rs := [10]) (by kernel_rfl) (by simp) ?_
  refine AllReadyH.cons rfl (fun K' hK => ?_) AllReadyH.nil
  go_simp
  refine (add_0_5 K M E S eb base v ms nA nn nc { data := #[] } tx false 0 w7 L7.out hm).mono ?_
  rintro e w8 ⟨rfl, hg, far, bel⟩
  go_simp
  have nb : ∀ q, w.heap.size ≤ q → v.ownBlock ≠ some q := fun q hq e => by have := (HL.out.row.lt q e).2; omega
  have hbs := HL.out.bs
  have h1 := HL.out.mb; have h2 := HL.out.sb; have h3 := HL.out.eb'
  refine hK.out _ _ ⟨(World.cell?_of_block (far w.heap.size (by omega) (by omega) (by omega) (nb _ (by omega)) (by omega))).trans m0, (World.cell?_of_block (far (w.heap.size + 1) (by omega) (by omega) (by omega) (nb _ (by omega)) (by omega))).trans m1, (World.cell?_of_block (far (w.heap.size + 1) (by omega) (by omega) (by omega) (nb _ (by omega)) (by omega))).trans m2⟩ (fun hHeld => ?_)
  clear hK K'
  try go_frame
  have HG : Hid (∃ v', Lg w8 K M E S 0 eb base v' (ms ++ [⟨nA, nn, nc, { data := #[] }, tx, false, 5, 0⟩]) ∧ ∀ q, q < w.heap.size → v.ownBlock ≠ some q → v'.ownBlock ≠ some q) := Lib.hid (by obtain ⟨v', g1, g2⟩ := hg; exact ⟨v', g1, fun q hq => g2 q (by omega)⟩)
  have HB8 : Hid (∀ B, B ≤ M → B ≤ S → B ≤ E → B ≤ base → Below B w w8) := Lib.hid fun B g1 g2 g3 g4 => ((bb.mono (by omega)).trans (((Below.refl B w0).drew).trans (B7.mono (by show B ≤ w0.heap.size; omega)))).trans (bel B g1 g2 g3 g4)
  have HF8 : Hid (∀ q, q ≠ M → q ≠ S → q ≠ E → v.ownBlock ≠ some q → q < w.heap.size → w8.heap[q]? = w.heap[q]?) := Lib.hid fun q g1 g2 g3 g4 g5 => (far q g1 g2 g3 g4 (by omega)).trans ((E7 q (by omega)).trans (e0 q g5))
  clear hg far bel m0 m1 m2 l0 l1 nb
  refine wpAnyH_done (by kernel_rfl) ?_ _
  go_wp2
  go_end0
  exact ⟨rfl, HG.out, HF8.out, HB8.out⟩
end Go.Proofs.YtlmkgghfnfhojaaGreatDoor.Fdc
