/- An id's message onto a free log that holds none. -/
import Derived.Test.YtlhdihdlkejjdaaFmtDfC
namespace Go.Proofs.YtlhdihdlkejjdaaFmt.DfD
open Go.RowKit Go.Deep Go.MuLone Go.Proofs.YtlhdihdlkejjdaaFmt.Base Go.Proofs.YtlhdihdlkejjdaaFmt.Sls Go.Proofs.YtlhdihdlkejjdaaFmt.DfA Go.Proofs.YtlhdihdlkejjdaaFmt.DfB Go.Proofs.YtlhdihdlkejjdaaFmt.DfC
set_option linter.unusedVariables false
theorem lg_block {w w' : World} {K M E S : Nat} {v : Value} (h : Lg w K M E S v) (e : ∀ q, q = K ∨ q = M ∨ q = E ∨ q = S → w'.heap[q]? = w.heap[q]?) : Lg w' K M E S v :=
  ⟨(e K (.inl rfl)).trans h.k, (e M (.inr (.inl rfl))).trans h.m, (e E (.inr (.inr (.inl rfl)))).trans h.e, (e S (.inr (.inr (.inr rfl)))).trans h.s⟩
set_option maxRecDepth 20000 in
theorem addid24 (K M E S T : Nat) (id : Int) (tx : ByteArray) (w : World) (h : Lg w K M E S (.slice none 0 0)) (hT : w.rowIs T 57 10 (trk false)) (i0 : 0 ≤ id) (i1 : id ≤ 255) (hKM : K ≠ M) (hEM : E ≠ M) (hSM : S ≠ M) (hKS : K ≠ S) (hES : E ≠ S) (t1 : K ≠ T) (t2 : M ≠ T) (t3 : E ≠ T) (t4 : S ≠ T) :
    Calls Tryf.prog 24 #[logv K M E S, .int .u8 id, .int .u8 1, ptr T, .agg #[.int .i32 0, .int .i32 0], .string tx] w fun e w' => e = .returned (.tuple #[]) ∧ (∃ g c, Lg w' K M E S (.slice (some ⟨g, 0, none⟩) 1 c)) ∧ (∀ q, q ≠ M → q ≠ S → q ≠ T → q < w.heap.size → w'.heap[q]? = w.heap[q]?) ∧ ∀ B, B ≤ M → B ≤ S → B ≤ T → B ≤ w.heap.size → Below B w w' := by
  have kM := (Array.getElem?_eq_some_iff.1 h.m).1
  have kS := (Array.getElem?_eq_some_iff.1 h.s).1
  have kK := (Array.getElem?_eq_some_iff.1 h.k).1
  have kE := (Array.getElem?_eq_some_iff.1 h.e).1
  have kT := hT.lt
  have HL := Lib.hid h; have HT := Lib.hid hT
  have A := Lib.hid (fun w' => allow29 id 1 i0 i1 w')
  clear h hT
  unfold logv ptr
  go_enter Tryf.func24, Tryf.ntmps24
  go_wp2_with (first | (go_at_call 29; refine (A.out _).mono ?_; rintro e w7 ⟨rfl, rfl⟩) | fail)
  have lt0 : w.heap.size < ((w.alloc (.cells #[.func (Fn.func 16) #[] #[.pointer (some ⟨K, 0, none⟩), .pointer (some ⟨M, 0, none⟩), .pointer (some ⟨E, 0, none⟩), .pointer (some ⟨S, 0, none⟩)], .func (Fn.func 19) #[] #[.pointer (some ⟨M, 0, none⟩), .pointer (some ⟨E, 0, none⟩)], .func (Fn.func 20) #[] #[.pointer (some ⟨M, 0, none⟩), .pointer (some ⟨S, 0, none⟩)], .func (Fn.func 21) #[] #[.pointer (some ⟨M, 0, none⟩), .pointer (some ⟨S, 0, none⟩)], .int .i8 3, .map none] 37)).alloc (.cells #[.int .i32 0, .int .i32 0] 76)).heap.size := by simp; omega
  have e0 : ∀ q, q < w.heap.size → ((w.alloc (.cells #[.func (Fn.func 16) #[] #[.pointer (some ⟨K, 0, none⟩), .pointer (some ⟨M, 0, none⟩), .pointer (some ⟨E, 0, none⟩), .pointer (some ⟨S, 0, none⟩)], .func (Fn.func 19) #[] #[.pointer (some ⟨M, 0, none⟩), .pointer (some ⟨E, 0, none⟩)], .func (Fn.func 20) #[] #[.pointer (some ⟨M, 0, none⟩), .pointer (some ⟨S, 0, none⟩)], .func (Fn.func 21) #[] #[.pointer (some ⟨M, 0, none⟩), .pointer (some ⟨S, 0, none⟩)], .int .i8 3, .map none] 37)).alloc (.cells #[.int .i32 0, .int .i32 0] 76)).heap[q]? = w.heap[q]? := fun q hq => (blk_alloc_lt _ _ _ (by simp; omega)).trans (blk_alloc_lt _ _ _ hq)
  have l0 : ((w.alloc (.cells #[.func (Fn.func 16) #[] #[.pointer (some ⟨K, 0, none⟩), .pointer (some ⟨M, 0, none⟩), .pointer (some ⟨E, 0, none⟩), .pointer (some ⟨S, 0, none⟩)], .func (Fn.func 19) #[] #[.pointer (some ⟨M, 0, none⟩), .pointer (some ⟨E, 0, none⟩)], .func (Fn.func 20) #[] #[.pointer (some ⟨M, 0, none⟩), .pointer (some ⟨S, 0, none⟩)], .func (Fn.func 21) #[] #[.pointer (some ⟨M, 0, none⟩), .pointer (some ⟨S, 0, none⟩)], .int .i8 3, .map none] 37)).alloc (.cells #[.int .i32 0, .int .i32 0] 76)).cell? ⟨w.heap.size, 0, none⟩ = some (.func (Fn.func 16) #[] #[.pointer (some ⟨K, 0, none⟩), .pointer (some ⟨M, 0, none⟩), .pointer (some ⟨E, 0, none⟩), .pointer (some ⟨S, 0, none⟩)]) := by go_simp
  have l1 : ((w.alloc (.cells #[.func (Fn.func 16) #[] #[.pointer (some ⟨K, 0, none⟩), .pointer (some ⟨M, 0, none⟩), .pointer (some ⟨E, 0, none⟩), .pointer (some ⟨S, 0, none⟩)], .func (Fn.func 19) #[] #[.pointer (some ⟨M, 0, none⟩), .pointer (some ⟨E, 0, none⟩)], .func (Fn.func 20) #[] #[.pointer (some ⟨M, 0, none⟩), .pointer (some ⟨S, 0, none⟩)], .func (Fn.func 21) #[] #[.pointer (some ⟨M, 0, none⟩), .pointer (some ⟨S, 0, none⟩)], .int .i8 3, .map none] 37)).alloc (.cells #[.int .i32 0, .int .i32 0] 76)).cell? ⟨w.heap.size + 1, 0, none⟩ = some (.int .i32 0) ∧ ((w.alloc (.cells #[.func (Fn.func 16) #[] #[.pointer (some ⟨K, 0, none⟩), .pointer (some ⟨M, 0, none⟩), .pointer (some ⟨E, 0, none⟩), .pointer (some ⟨S, 0, none⟩)], .func (Fn.func 19) #[] #[.pointer (some ⟨M, 0, none⟩), .pointer (some ⟨E, 0, none⟩)], .func (Fn.func 20) #[] #[.pointer (some ⟨M, 0, none⟩), .pointer (some ⟨S, 0, none⟩)], .func (Fn.func 21) #[] #[.pointer (some ⟨M, 0, none⟩), .pointer (some ⟨S, 0, none⟩)], .int .i8 3, .map none] 37)).alloc (.cells #[.int .i32 0, .int .i32 0] 76)).cell? ⟨w.heap.size + 1, 1, none⟩ = some (.int .i32 0) := ⟨by go_simp, by go_simp⟩
  have zz : ((w.alloc (.cells #[.func (Fn.func 16) #[] #[.pointer (some ⟨K, 0, none⟩), .pointer (some ⟨M, 0, none⟩), .pointer (some ⟨E, 0, none⟩), .pointer (some ⟨S, 0, none⟩)], .func (Fn.func 19) #[] #[.pointer (some ⟨M, 0, none⟩), .pointer (some ⟨E, 0, none⟩)], .func (Fn.func 20) #[] #[.pointer (some ⟨M, 0, none⟩), .pointer (some ⟨S, 0, none⟩)], .func (Fn.func 21) #[] #[.pointer (some ⟨M, 0, none⟩), .pointer (some ⟨S, 0, none⟩)], .int .i8 3, .map none] 37)).alloc (.cells #[.int .i32 0, .int .i32 0] 76)).heap.size = w.heap.size + 2 := by simp
  have bb : Below w.heap.size w ((w.alloc (.cells #[.func (Fn.func 16) #[] #[.pointer (some ⟨K, 0, none⟩), .pointer (some ⟨M, 0, none⟩), .pointer (some ⟨E, 0, none⟩), .pointer (some ⟨S, 0, none⟩)], .func (Fn.func 19) #[] #[.pointer (some ⟨M, 0, none⟩), .pointer (some ⟨E, 0, none⟩)], .func (Fn.func 20) #[] #[.pointer (some ⟨M, 0, none⟩), .pointer (some ⟨S, 0, none⟩)], .func (Fn.func 21) #[] #[.pointer (some ⟨M, 0, none⟩), .pointer (some ⟨S, 0, none⟩)], .int .i8 3, .map none] 37)).alloc (.cells #[.int .i32 0, .int .i32 0] 76)) := ((Below.refl _ _).alloc (Nat.le_refl _) _).alloc (by simp) _
  clear lt0
  generalize ((w.alloc (.cells #[.func (Fn.func 16) #[] #[.pointer (some ⟨K, 0, none⟩), .pointer (some ⟨M, 0, none⟩), .pointer (some ⟨E, 0, none⟩), .pointer (some ⟨S, 0, none⟩)], .func (Fn.func 19) #[] #[.pointer (some ⟨M, 0, none⟩), .pointer (some ⟨E, 0, none⟩)], .func (Fn.func 20) #[] #[.pointer (some ⟨M, 0, none⟩), .pointer (some ⟨S, 0, none⟩)], .func (Fn.func 21) #[] #[.pointer (some ⟨M, 0, none⟩), .pointer (some ⟨S, 0, none⟩)], .int .i8 3, .map none] 37)).alloc (.cells #[.int .i32 0, .int .i32 0] 76)) = w0 at e0 l0 l1 zz bb ⊢
  have D := Lib.hid (data30 T tx w0.drew (World.rowIs.drew (HT.out.of_block (e0 T kT))))
  have L0 : Hid (Lg w0 K M E S (.slice none 0 0)) := Lib.hid (lg_block HL.out (fun q hq => e0 q (by rcases hq with rfl | rfl | rfl | rfl <;> assumption)))
  refine wp_region_held_drew (S := fun w' => w'.cell? ⟨w.heap.size, 0, none⟩ = some (.func (Fn.func 16) #[] #[.pointer (some ⟨K, 0, none⟩), .pointer (some ⟨M, 0, none⟩), .pointer (some ⟨E, 0, none⟩), .pointer (some ⟨S, 0, none⟩)]) ∧ w'.cell? ⟨w.heap.size + 1, 0, none⟩ = some (.int .i32 0) ∧ w'.cell? ⟨w.heap.size + 1, 1, none⟩ = some (.int .i32 0)) (by kernel_rfl) ⟨l0, l1⟩ (fun hHeld => ?_)
  refine wpAnyH_take (i := 0) (oi := { dst := some 23, op := Op.fieldAddr 37 (Operand.tmp 6) 0, type := 0, pos := "logger.go:1413", after := #[], guard := none }) (v := ?_) rfl (by kernel_rfl) (by kernel_rfl) (by kernel_rfl) (fun _ _ _ h => h) (Or.inl ⟨by rfl, ?_⟩) (by assumption) ?_
  rotate_left
  · intro wq hSw
    obtain ⟨q1, q2, q3⟩ := hSw
    go_simp
    try (with_reducible rfl)
  try go_frame
  refine wpAnyH_take (i := 1) (oi := { dst := some 24, op := Op.load 30 (Operand.tmp 23), type := 30, pos := "logger.go:1413", after := #[{ on := 0, ground := Ground.data }], guard := none }) (v := ?_) rfl (by kernel_rfl) (by kernel_rfl) (by kernel_rfl) (fun _ _ _ h => h) (Or.inl ⟨by rfl, ?_⟩) (by assumption) ?_
  rotate_left
  · intro wq hSw
    obtain ⟨q1, q2, q3⟩ := hSw
    go_simp
    try (with_reducible rfl)
  try go_frame
  refine wpAnyH_take (i := 2) (oi := { dst := some 25, op := Op.move (Operand.tmp 1), type := 5, pos := "logger.go:1413", after := #[], guard := none }) (v := ?_) rfl (by kernel_rfl) (by kernel_rfl) (by kernel_rfl) (fun _ _ _ h => h) (Or.inl ⟨by rfl, ?_⟩) (by assumption) ?_
  rotate_left
  · intro wq hSw
    obtain ⟨q1, q2, q3⟩ := hSw
    go_simp
    try (with_reducible rfl)
  try go_frame
  refine wpAnyH_take (i := 3) (oi := { dst := some 26, op := Op.move (Operand.tmp 12), type := 71, pos := "logger.go:1413", after := #[], guard := none }) (v := ?_) rfl (by kernel_rfl) (by kernel_rfl) (by kernel_rfl) (fun _ _ _ h => h) (Or.inl ⟨by rfl, ?_⟩) (by assumption) ?_
  rotate_left
  · intro wq hSw
    obtain ⟨q1, q2, q3⟩ := hSw
    go_simp
    try (with_reducible rfl)
  try go_frame
  refine wpAnyH_take (i := 4) (oi := { dst := some 27, op := Op.move (Operand.tmp 3), type := 22, pos := "logger.go:1413", after := #[], guard := none }) (v := ?_) rfl (by kernel_rfl) (by kernel_rfl) (by kernel_rfl) (fun _ _ _ h => h) (Or.inl ⟨by rfl, ?_⟩) (by assumption) ?_
  rotate_left
  · intro wq hSw
    obtain ⟨q1, q2, q3⟩ := hSw
    go_simp
    try (with_reducible rfl)
  try go_frame
  refine wpAnyH_take (i := 5) (oi := { dst := some 28, op := Op.load 76 (Operand.tmp 10), type := 76, pos := "logger.go:1413", after := #[], guard := none }) (v := ?_) rfl (by kernel_rfl) (by kernel_rfl) (by kernel_rfl) (fun _ _ _ h => h) (Or.inl ⟨by rfl, ?_⟩) (by assumption) ?_
  rotate_left
  · intro wq hSw
    obtain ⟨q1, q2, q3⟩ := hSw
    go_simp
    try (with_reducible rfl)
  try go_frame
  refine wpAnyH_take (i := 6) (oi := { dst := some 29, op := Op.move (Operand.tmp 5), type := 9, pos := "logger.go:1413", after := #[], guard := none }) (v := ?_) rfl (by kernel_rfl) (by kernel_rfl) (by kernel_rfl) (fun _ _ _ h => h) (Or.inl ⟨by rfl, ?_⟩) (by assumption) ?_
  rotate_left
  · intro wq hSw
    obtain ⟨q1, q2, q3⟩ := hSw
    go_simp
    try (with_reducible rfl)
  try go_frame
  refine wpAnyH_ready (rs := [7]) (by kernel_rfl) (by simp) ?_
  refine AllReadyH.cons rfl (fun K' hK => ?_) AllReadyH.nil
  go_simp
  refine D.out.mono ?_
  rintro e w7 ⟨⟨g, rfl⟩, he, hz, hb⟩
  go_simp
  have hz7 : w.heap.size + 2 ≤ w7.heap.size := by rw [← zz]; exact hz
  have E7 : ∀ q, q ≠ T → q < w.heap.size + 2 → w7.heap[q]? = w0.heap[q]? := fun q h1 h2 => he q h1 (by show q < w0.heap.size; omega)
  have B7 := hb
  have L7 : Hid (Lg w7 K M E S (.slice none 0 0)) := Lib.hid (lg_block L0.out (fun q hq => E7 q (by rcases hq with rfl | rfl | rfl | rfl <;> assumption) (by rcases hq with rfl | rfl | rfl | rfl <;> omega)))
  have m0 : w7.cell? ⟨w.heap.size, 0, none⟩ = some (.func (Fn.func 16) #[] #[.pointer (some ⟨K, 0, none⟩), .pointer (some ⟨M, 0, none⟩), .pointer (some ⟨E, 0, none⟩), .pointer (some ⟨S, 0, none⟩)]) := (World.cell?_of_block (E7 w.heap.size (by omega) (by omega))).trans l0
  have m1 : w7.cell? ⟨w.heap.size + 1, 0, none⟩ = some (.int .i32 0) := (World.cell?_of_block (E7 (w.heap.size + 1) (by omega) (by omega))).trans l1.1
  have m2 : w7.cell? ⟨w.heap.size + 1, 1, none⟩ = some (.int .i32 0) := (World.cell?_of_block (E7 (w.heap.size + 1) (by omega) (by omega))).trans l1.2
  refine hK.out _ _ ⟨m0, m1, m2⟩ (fun hHeld => ?_)
  clear hK K' he hb
  try go_frame
  refine wpAnyH_take (i := 8) (oi := { dst := some 31, op := Op.build 73 #[(4, Operand.tmp 25), (3, Operand.tmp 26), (2, Operand.tmp 30)], type := 73, pos := "logger.go:1413", after := #[{ on := 2, ground := Ground.data }, { on := 3, ground := Ground.data }, { on := 7, ground := Ground.data }], guard := none }) (v := ?_) rfl (by kernel_rfl) (by kernel_rfl) (by kernel_rfl) (fun _ _ _ h => h) (Or.inl ⟨by rfl, ?_⟩) (by assumption) ?_
  rotate_left
  · intro wq hSw
    have q1 := hSw.1
    go_simp
    try (with_reducible rfl)
  try go_frame
  refine wpAnyH_ready (rs := [9]) (by kernel_rfl) (by simp) ?_
  refine AllReadyH.cons rfl (fun K' hK => ?_) AllReadyH.nil
  go_simp
  refine (add16 K M E S { data := #[] } tx (some ⟨g, 0, none⟩) false 1 id w7 L7.out hKM hEM hSM hKS hES (by decide) (by decide) (by decide)).mono ?_
  rintro e w8 ⟨rfl, hg, far, bel⟩
  go_simp
  refine hK.out _ _ ⟨(World.cell?_of_block (far w.heap.size (by omega) (by omega) (by omega))).trans m0, (World.cell?_of_block (far (w.heap.size + 1) (by omega) (by omega) (by omega))).trans m1, (World.cell?_of_block (far (w.heap.size + 1) (by omega) (by omega) (by omega))).trans m2⟩ (fun hHeld => ?_)
  clear hK K'
  try go_frame
  have HG := Lib.hid hg
  have HB8 : Hid (∀ B, B ≤ M → B ≤ S → B ≤ T → B ≤ w.heap.size → Below B w w8) := Lib.hid fun B h1 h2 h3 h4 => ((bb.mono h4).trans (((Below.refl B w0).drew).trans (B7 B h3))).trans (bel B h1 h2 (by omega))
  have HF8 : Hid (∀ q, q ≠ M → q ≠ S → q ≠ T → q < w.heap.size → w8.heap[q]? = w.heap[q]?) := Lib.hid fun q h1 h2 h3 h4 => (far q h1 h2 (by omega)).trans ((E7 q h3 (by omega)).trans (e0 q h4))
  clear hg far bel m0 m1 m2 l0 l1
  refine wpAnyH_done (by kernel_rfl) ?_ _
  go_wp2
  go_end0
  exact ⟨rfl, HG.out, HF8.out, HB8.out⟩
end Go.Proofs.YtlhdihdlkejjdaaFmt.DfD
