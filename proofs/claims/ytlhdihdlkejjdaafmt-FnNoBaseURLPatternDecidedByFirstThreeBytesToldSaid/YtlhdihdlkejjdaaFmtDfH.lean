/- ZZisValidTSConfigPathNoBaseURLPattern by its contract: its first result is okN of the text. Condition: the length. -/
import Derived.Test.YtlhdihdlkejjdaaFmtDfG
namespace Go.Proofs.YtlhdihdlkejjdaaFmt.DfH
open Go.RowKit Go.Deep Go.MuLone Go.Extern.Stop Go.Stop Go.Extern Go.Proofs.YtlhdihdlkejjdaaFmt.Base Go.Proofs.YtlhdihdlkejjdaaFmt.Sls Go.Proofs.YtlhdihdlkejjdaaFmt.DfA Go.Proofs.YtlhdihdlkejjdaaFmt.DfB Go.Proofs.YtlhdihdlkejjdaaFmt.DfC Go.Proofs.YtlhdihdlkejjdaaFmt.DfD Go.Proofs.YtlhdihdlkejjdaaFmt.DfE Go.Proofs.YtlhdihdlkejjdaaFmt.DfF Go.Proofs.YtlhdihdlkejjdaaFmt.DfG
set_option linter.unusedVariables false
set_option maxRecDepth 20000 in
set_option maxHeartbeats 2000000 in
theorem zz6 (s : ByteArray) (w : World) (hs : s.size ≤ 1048576) : Calls Tryf.prog 6 #[.string s] w fun e w' => (∃ (n : Int) (p : Option Addr), e = .returned (.tuple #[.bool (okN s), .int .i64 n, .pointer p])) ∧ Below w.heap.size w w' := by
  have hsf := run_store_func
  obtain ⟨ob, hob⟩ : ∃ ob, ob = okN s := ⟨_, rfl⟩
  have PT := Lib.hid (fun K M E S P X w => pat12 s K M E S P X w hs)
  rw [← hob] at PT ⊢
  clear hob
  go_enter Tryf.func6, Tryf.ntmps6
  go_wp2_with (fail)
  refine (new11 _).mono ?_
  rintro e w2 ⟨rfl, hb, hl⟩
  have HB := Lib.hid hb; have HL := Lib.hid hl
  have z2 : w.heap.size + 4 < w2.heap.size := (Array.getElem?_eq_some_iff.1 hl.e).1
  clear hb hl
  unfold logv ptr
  go_upto_region 4 with (fail)
  have s3 := src_alloc (w2.alloc (.cells #[.func (Fn.func 16) #[] #[.pointer (some ⟨w.heap.size, 0, none⟩), .pointer (some ⟨w.heap.size + 3, 0, none⟩), .pointer (some ⟨w.heap.size + 4, 0, none⟩), .pointer (some ⟨w.heap.size + 2, 0, none⟩)], .func (Fn.func 19) #[] #[.pointer (some ⟨w.heap.size + 3, 0, none⟩), .pointer (some ⟨w.heap.size + 4, 0, none⟩)], .func (Fn.func 20) #[] #[.pointer (some ⟨w.heap.size + 3, 0, none⟩), .pointer (some ⟨w.heap.size + 2, 0, none⟩)], .func (Fn.func 21) #[] #[.pointer (some ⟨w.heap.size + 3, 0, none⟩), .pointer (some ⟨w.heap.size + 2, 0, none⟩)], .int .i8 3, .map none] 37))
  rw [World.size_alloc] at s3
  have e3 : ∀ q, q < w2.heap.size → (((w2.alloc (.cells #[.func (Fn.func 16) #[] #[.pointer (some ⟨w.heap.size, 0, none⟩), .pointer (some ⟨w.heap.size + 3, 0, none⟩), .pointer (some ⟨w.heap.size + 4, 0, none⟩), .pointer (some ⟨w.heap.size + 2, 0, none⟩)], .func (Fn.func 19) #[] #[.pointer (some ⟨w.heap.size + 3, 0, none⟩), .pointer (some ⟨w.heap.size + 4, 0, none⟩)], .func (Fn.func 20) #[] #[.pointer (some ⟨w.heap.size + 3, 0, none⟩), .pointer (some ⟨w.heap.size + 2, 0, none⟩)], .func (Fn.func 21) #[] #[.pointer (some ⟨w.heap.size + 3, 0, none⟩), .pointer (some ⟨w.heap.size + 2, 0, none⟩)], .int .i8 3, .map none] 37)).alloc (.cells #[.string { data := #[] }, .string { data := #[] }, .string { data := #[] }, .string { data := #[] }, .string { data := #[] }, .string { data := #[] }, .string { data := #[] }, .string { data := #[] }, .int .u8 0, .int .u32 0] 49)).alloc (.cells #[.pointer none] 22)).heap[q]? = w2.heap[q]? := fun q hq => (blk_alloc_lt _ _ _ (by simp; omega)).trans ((blk_alloc_lt _ _ _ (by simp; omega)).trans (blk_alloc_lt _ _ _ hq))
  have l3 : (((w2.alloc (.cells #[.func (Fn.func 16) #[] #[.pointer (some ⟨w.heap.size, 0, none⟩), .pointer (some ⟨w.heap.size + 3, 0, none⟩), .pointer (some ⟨w.heap.size + 4, 0, none⟩), .pointer (some ⟨w.heap.size + 2, 0, none⟩)], .func (Fn.func 19) #[] #[.pointer (some ⟨w.heap.size + 3, 0, none⟩), .pointer (some ⟨w.heap.size + 4, 0, none⟩)], .func (Fn.func 20) #[] #[.pointer (some ⟨w.heap.size + 3, 0, none⟩), .pointer (some ⟨w.heap.size + 2, 0, none⟩)], .func (Fn.func 21) #[] #[.pointer (some ⟨w.heap.size + 3, 0, none⟩), .pointer (some ⟨w.heap.size + 2, 0, none⟩)], .int .i8 3, .map none] 37)).alloc (.cells #[.string { data := #[] }, .string { data := #[] }, .string { data := #[] }, .string { data := #[] }, .string { data := #[] }, .string { data := #[] }, .string { data := #[] }, .string { data := #[] }, .int .u8 0, .int .u32 0] 49)).alloc (.cells #[.pointer none] 22)).heap[w2.heap.size]? = some (.cells #[.func (Fn.func 16) #[] #[.pointer (some ⟨w.heap.size, 0, none⟩), .pointer (some ⟨w.heap.size + 3, 0, none⟩), .pointer (some ⟨w.heap.size + 4, 0, none⟩), .pointer (some ⟨w.heap.size + 2, 0, none⟩)], .func (Fn.func 19) #[] #[.pointer (some ⟨w.heap.size + 3, 0, none⟩), .pointer (some ⟨w.heap.size + 4, 0, none⟩)], .func (Fn.func 20) #[] #[.pointer (some ⟨w.heap.size + 3, 0, none⟩), .pointer (some ⟨w.heap.size + 2, 0, none⟩)], .func (Fn.func 21) #[] #[.pointer (some ⟨w.heap.size + 3, 0, none⟩), .pointer (some ⟨w.heap.size + 2, 0, none⟩)], .int .i8 3, .map none] 37 (0, 0)) := (blk_alloc_lt _ _ _ (by simp; omega)).trans ((blk_alloc_lt _ _ _ (by simp)).trans (heap_alloc_new w2 _))
  have S3 := Lib.hid (s3.alloc (.cells #[.pointer none] 22))
  have p3 : (((w2.alloc (.cells #[.func (Fn.func 16) #[] #[.pointer (some ⟨w.heap.size, 0, none⟩), .pointer (some ⟨w.heap.size + 3, 0, none⟩), .pointer (some ⟨w.heap.size + 4, 0, none⟩), .pointer (some ⟨w.heap.size + 2, 0, none⟩)], .func (Fn.func 19) #[] #[.pointer (some ⟨w.heap.size + 3, 0, none⟩), .pointer (some ⟨w.heap.size + 4, 0, none⟩)], .func (Fn.func 20) #[] #[.pointer (some ⟨w.heap.size + 3, 0, none⟩), .pointer (some ⟨w.heap.size + 2, 0, none⟩)], .func (Fn.func 21) #[] #[.pointer (some ⟨w.heap.size + 3, 0, none⟩), .pointer (some ⟨w.heap.size + 2, 0, none⟩)], .int .i8 3, .map none] 37)).alloc (.cells #[.string { data := #[] }, .string { data := #[] }, .string { data := #[] }, .string { data := #[] }, .string { data := #[] }, .string { data := #[] }, .string { data := #[] }, .string { data := #[] }, .int .u8 0, .int .u32 0] 49)).alloc (.cells #[.pointer none] 22)).heap[w2.heap.size + 2]? = some (.cells #[.pointer none] 22 (0, 0)) := at_new _ _ _ (by simp)
  have B3 := Lib.hid (((HB.out.alloc HB.out.size (.cells #[.func (Fn.func 16) #[] #[.pointer (some ⟨w.heap.size, 0, none⟩), .pointer (some ⟨w.heap.size + 3, 0, none⟩), .pointer (some ⟨w.heap.size + 4, 0, none⟩), .pointer (some ⟨w.heap.size + 2, 0, none⟩)], .func (Fn.func 19) #[] #[.pointer (some ⟨w.heap.size + 3, 0, none⟩), .pointer (some ⟨w.heap.size + 4, 0, none⟩)], .func (Fn.func 20) #[] #[.pointer (some ⟨w.heap.size + 3, 0, none⟩), .pointer (some ⟨w.heap.size + 2, 0, none⟩)], .func (Fn.func 21) #[] #[.pointer (some ⟨w.heap.size + 3, 0, none⟩), .pointer (some ⟨w.heap.size + 2, 0, none⟩)], .int .i8 3, .map none] 37)).alloc (by simp; omega) (.cells #[.string { data := #[] }, .string { data := #[] }, .string { data := #[] }, .string { data := #[] }, .string { data := #[] }, .string { data := #[] }, .string { data := #[] }, .string { data := #[] }, .int .u8 0, .int .u32 0] 49)).alloc (by simp; omega) (.cells #[.pointer none] 22))
  have L3 := Lib.hid (lg_block HL.out (fun q hq => e3 q (by rcases hq with rfl | rfl | rfl | rfl <;> omega)))
  have z3 : (((w2.alloc (.cells #[.func (Fn.func 16) #[] #[.pointer (some ⟨w.heap.size, 0, none⟩), .pointer (some ⟨w.heap.size + 3, 0, none⟩), .pointer (some ⟨w.heap.size + 4, 0, none⟩), .pointer (some ⟨w.heap.size + 2, 0, none⟩)], .func (Fn.func 19) #[] #[.pointer (some ⟨w.heap.size + 3, 0, none⟩), .pointer (some ⟨w.heap.size + 4, 0, none⟩)], .func (Fn.func 20) #[] #[.pointer (some ⟨w.heap.size + 3, 0, none⟩), .pointer (some ⟨w.heap.size + 2, 0, none⟩)], .func (Fn.func 21) #[] #[.pointer (some ⟨w.heap.size + 3, 0, none⟩), .pointer (some ⟨w.heap.size + 2, 0, none⟩)], .int .i8 3, .map none] 37)).alloc (.cells #[.string { data := #[] }, .string { data := #[] }, .string { data := #[] }, .string { data := #[] }, .string { data := #[] }, .string { data := #[] }, .string { data := #[] }, .string { data := #[] }, .int .u8 0, .int .u32 0] 49)).alloc (.cells #[.pointer none] 22)).heap.size = w2.heap.size + 3 := by simp
  generalize hw3 : (((w2.alloc (.cells #[.func (Fn.func 16) #[] #[.pointer (some ⟨w.heap.size, 0, none⟩), .pointer (some ⟨w.heap.size + 3, 0, none⟩), .pointer (some ⟨w.heap.size + 4, 0, none⟩), .pointer (some ⟨w.heap.size + 2, 0, none⟩)], .func (Fn.func 19) #[] #[.pointer (some ⟨w.heap.size + 3, 0, none⟩), .pointer (some ⟨w.heap.size + 4, 0, none⟩)], .func (Fn.func 20) #[] #[.pointer (some ⟨w.heap.size + 3, 0, none⟩), .pointer (some ⟨w.heap.size + 2, 0, none⟩)], .func (Fn.func 21) #[] #[.pointer (some ⟨w.heap.size + 3, 0, none⟩), .pointer (some ⟨w.heap.size + 2, 0, none⟩)], .int .i8 3, .map none] 37)).alloc (.cells #[.string { data := #[] }, .string { data := #[] }, .string { data := #[] }, .string { data := #[] }, .string { data := #[] }, .string { data := #[] }, .string { data := #[] }, .string { data := #[] }, .int .u8 0, .int .u32 0] 49)).alloc (.cells #[.pointer none] 22)) = w3 at l3 S3 p3 B3 L3 z3 ⊢
  have Hl3 := Lib.hid l3; have HP3 := Lib.hid p3
  clear hw3 e3 s3
  have c0 : w3.cell? ⟨w2.heap.size, 0, none⟩ = some (.func (Fn.func 16) #[] #[.pointer (some ⟨w.heap.size, 0, none⟩), .pointer (some ⟨w.heap.size + 3, 0, none⟩), .pointer (some ⟨w.heap.size + 4, 0, none⟩), .pointer (some ⟨w.heap.size + 2, 0, none⟩)]) := by simp [World.cell?, l3]
  have c1 : w3.cell? ⟨w2.heap.size, 1, none⟩ = some (.func (Fn.func 19) #[] #[.pointer (some ⟨w.heap.size + 3, 0, none⟩), .pointer (some ⟨w.heap.size + 4, 0, none⟩)]) := by simp [World.cell?, l3]
  have c2 : w3.cell? ⟨w2.heap.size, 2, none⟩ = some (.func (Fn.func 20) #[] #[.pointer (some ⟨w.heap.size + 3, 0, none⟩), .pointer (some ⟨w.heap.size + 2, 0, none⟩)]) := by simp [World.cell?, l3]
  have c3 : w3.cell? ⟨w2.heap.size, 3, none⟩ = some (.func (Fn.func 21) #[] #[.pointer (some ⟨w.heap.size + 3, 0, none⟩), .pointer (some ⟨w.heap.size + 2, 0, none⟩)]) := by simp [World.cell?, l3]
  have c4 : w3.cell? ⟨w2.heap.size, 4, none⟩ = some (.int .i8 3) := by simp [World.cell?, l3]
  have c5 : w3.cell? ⟨w2.heap.size, 5, none⟩ = some (.map none) := by simp [World.cell?, l3]
  clear l3 p3
  go_wp2_with (fail)
  refine (PT.out w.heap.size (w.heap.size + 3) (w.heap.size + 4) (w.heap.size + 2) (w2.heap.size + 2) (w2.heap.size + 1) w3 L3.out HP3.out S3.out ⟨by omega, by omega, by omega, by omega, by omega, by omega, by omega, by omega, by omega, by omega⟩).mono ?_
  rintro e w4 ⟨hv, hp, far, bel⟩
  have l4 : w4.heap[w2.heap.size]? = some (.cells #[.func (Fn.func 16) #[] #[.pointer (some ⟨w.heap.size, 0, none⟩), .pointer (some ⟨w.heap.size + 3, 0, none⟩), .pointer (some ⟨w.heap.size + 4, 0, none⟩), .pointer (some ⟨w.heap.size + 2, 0, none⟩)], .func (Fn.func 19) #[] #[.pointer (some ⟨w.heap.size + 3, 0, none⟩), .pointer (some ⟨w.heap.size + 4, 0, none⟩)], .func (Fn.func 20) #[] #[.pointer (some ⟨w.heap.size + 3, 0, none⟩), .pointer (some ⟨w.heap.size + 2, 0, none⟩)], .func (Fn.func 21) #[] #[.pointer (some ⟨w.heap.size + 3, 0, none⟩), .pointer (some ⟨w.heap.size + 2, 0, none⟩)], .int .i8 3, .map none] 37 (0, 0)) := (far _ (by omega) (by omega) (by omega) (by omega)).trans Hl3.out
  obtain ⟨p, p4⟩ := hp
  have B4 := Lib.hid (B3.out.trans (bel w.heap.size (by omega) (by omega) (by omega) (by omega)))
  have z4 : w2.heap.size + 3 ≤ w4.heap.size := by have := (Array.getElem?_eq_some_iff.1 p4).1; omega
  clear far bel c0 c1 c2 c3 c4 c5
  have hl4 : ∃ A n c, n ≤ 1 ∧ e = .returned (.bool ob) ∧ Lg w4 w.heap.size (w.heap.size + 3) (w.heap.size + 4) (w.heap.size + 2) (.slice A n c) := by
    rcases hv with ⟨rfl, rfl, h⟩ | ⟨rfl, rfl, g, c, h⟩
    · exact ⟨_, _, _, by omega, rfl, h⟩
    · exact ⟨_, _, _, by omega, rfl, h⟩
  obtain ⟨A, n, c, hn, rfl, hl⟩ := hl4
  clear hv
  have D := Lib.hid (done21 w.heap.size (w.heap.size + 3) (w.heap.size + 4) (w.heap.size + 2) A n c hn)
  have HL4 := Lib.hid hl
  clear hl
  unfold ptr at D
  go_upto_region 5 with (fail)
  refine wp_region_held_drew (S := fun w' => w'.heap[w2.heap.size]? = some (.cells #[.func (Fn.func 16) #[] #[.pointer (some ⟨w.heap.size, 0, none⟩), .pointer (some ⟨w.heap.size + 3, 0, none⟩), .pointer (some ⟨w.heap.size + 4, 0, none⟩), .pointer (some ⟨w.heap.size + 2, 0, none⟩)], .func (Fn.func 19) #[] #[.pointer (some ⟨w.heap.size + 3, 0, none⟩), .pointer (some ⟨w.heap.size + 4, 0, none⟩)], .func (Fn.func 20) #[] #[.pointer (some ⟨w.heap.size + 3, 0, none⟩), .pointer (some ⟨w.heap.size + 2, 0, none⟩)], .func (Fn.func 21) #[] #[.pointer (some ⟨w.heap.size + 3, 0, none⟩), .pointer (some ⟨w.heap.size + 2, 0, none⟩)], .int .i8 3, .map none] 37 (0, 0)) ∧ w'.heap[w2.heap.size + 2]? = some (.cells #[.pointer p] 22 (0, 0))) (by kernel_rfl) ⟨l4, p4⟩ (fun hHeld => ?_)
  refine wpAnyH_take (i := 0) (oi := { dst := some 15, op := Op.move (Operand.tmp 8), type := 4, pos := "zzexport_n011_22.go:33", after := #[], guard := none }) (v := ?_) rfl (by kernel_rfl) (by kernel_rfl) (by kernel_rfl) (fun _ _ _ h => h) (Or.inl ⟨by rfl, ?_⟩) (by assumption) ?_
  rotate_left
  · intro wq hSw
    obtain ⟨q1, q2⟩ := hSw
    have a3 : wq.cell? ⟨w2.heap.size, 3, none⟩ = some (.func (Fn.func 21) #[] #[.pointer (some ⟨w.heap.size + 3, 0, none⟩), .pointer (some ⟨w.heap.size + 2, 0, none⟩)]) := by simp [World.cell?, q1]
    have b0 : wq.cell? ⟨w2.heap.size + 2, 0, none⟩ = some (.pointer p) := by simp [World.cell?, q2]
    go_simp
    try (with_reducible rfl)
  try go_frame
  refine wpAnyH_take (i := 1) (oi := { dst := some 16, op := Op.fieldAddr 37 (Operand.tmp 5) 3, type := 0, pos := "zzexport_n011_22.go:33", after := #[], guard := none }) (v := ?_) rfl (by kernel_rfl) (by kernel_rfl) (by kernel_rfl) (fun _ _ _ h => h) (Or.inl ⟨by rfl, ?_⟩) (by assumption) ?_
  rotate_left
  · intro wq hSw
    obtain ⟨q1, q2⟩ := hSw
    have a3 : wq.cell? ⟨w2.heap.size, 3, none⟩ = some (.func (Fn.func 21) #[] #[.pointer (some ⟨w.heap.size + 3, 0, none⟩), .pointer (some ⟨w.heap.size + 2, 0, none⟩)]) := by simp [World.cell?, q1]
    have b0 : wq.cell? ⟨w2.heap.size + 2, 0, none⟩ = some (.pointer p) := by simp [World.cell?, q2]
    go_simp
    try (with_reducible rfl)
  try go_frame
  refine wpAnyH_take (i := 2) (oi := { dst := some 17, op := Op.load 32 (Operand.tmp 16), type := 32, pos := "zzexport_n011_22.go:33", after := #[{ on := 1, ground := Ground.data }], guard := none }) (v := ?_) rfl (by kernel_rfl) (by kernel_rfl) (by kernel_rfl) (fun _ _ _ h => h) (Or.inl ⟨by rfl, ?_⟩) (by assumption) ?_
  rotate_left
  · intro wq hSw
    obtain ⟨q1, q2⟩ := hSw
    have a3 : wq.cell? ⟨w2.heap.size, 3, none⟩ = some (.func (Fn.func 21) #[] #[.pointer (some ⟨w.heap.size + 3, 0, none⟩), .pointer (some ⟨w.heap.size + 2, 0, none⟩)]) := by simp [World.cell?, q1]
    have b0 : wq.cell? ⟨w2.heap.size + 2, 0, none⟩ = some (.pointer p) := by simp [World.cell?, q2]
    go_simp
    try (with_reducible rfl)
  try go_frame
  refine wpAnyH_take (i := 5) (oi := { dst := some 20, op := Op.load 22 (Operand.tmp 7), type := 22, pos := "zzexport_n011_22.go:33", after := #[{ on := 7, ground := Ground.gcOnly Departure.lateStores }], guard := none }) (v := ?_) rfl (by kernel_rfl) (by kernel_rfl) (by kernel_rfl) (fun _ _ _ h => h) (Or.inl ⟨by rfl, ?_⟩) (by assumption) ?_
  rotate_left
  · intro wq hSw
    obtain ⟨q1, q2⟩ := hSw
    have a3 : wq.cell? ⟨w2.heap.size, 3, none⟩ = some (.func (Fn.func 21) #[] #[.pointer (some ⟨w.heap.size + 3, 0, none⟩), .pointer (some ⟨w.heap.size + 2, 0, none⟩)]) := by simp [World.cell?, q1]
    have b0 : wq.cell? ⟨w2.heap.size + 2, 0, none⟩ = some (.pointer p) := by simp [World.cell?, q2]
    go_simp
    try (with_reducible rfl)
  try go_frame
  refine wpAnyH_ready (rs := [3]) (by kernel_rfl) (by simp) ?_
  refine AllReadyH.cons rfl (fun K' hK => ?_) AllReadyH.nil
  go_simp
  refine (D.out w4.drew (lg_block HL4.out (fun q hq => rfl)) (by omega) (by omega) (by omega)).mono ?_
  rintro e w5 ⟨rfl, _, far, hb5⟩
  have B5 := Lib.hid (B4.out.drew.trans (hb5 w.heap.size (by omega)))
  have l5 : w5.heap[w2.heap.size]? = _ := (far w2.heap.size (by omega)).trans l4
  have p5 : w5.heap[w2.heap.size + 2]? = _ := (far (w2.heap.size + 2) (by omega)).trans p4
  clear hb5 far
  go_simp
  refine hK.out _ _ ⟨l5, p5⟩ (fun hHeld => ?_)
  clear hK K'
  try go_frame
  refine wpAnyH_take (i := 4) (oi := { dst := some 19, op := Op.call { callee := Callee.builtin Builtin.len, args := #[Operand.tmp 18], argTypes := #[55] }, type := 3, pos := "zzexport_n011_22.go:33", after := #[{ on := 3, ground := Ground.data }], guard := none }) (v := ?_) rfl (by kernel_rfl) (by kernel_rfl) (by kernel_rfl) (fun _ _ _ h => h) (Or.inl ⟨by rfl, ?_⟩) (by assumption) ?_
  rotate_left
  · intro wq hSw
    obtain ⟨q1, q2⟩ := hSw
    have a3 : wq.cell? ⟨w2.heap.size, 3, none⟩ = some (.func (Fn.func 21) #[] #[.pointer (some ⟨w.heap.size + 3, 0, none⟩), .pointer (some ⟨w.heap.size + 2, 0, none⟩)]) := by simp [World.cell?, q1]
    have b0 : wq.cell? ⟨w2.heap.size + 2, 0, none⟩ = some (.pointer p) := by simp [World.cell?, q2]
    go_simp
    try (with_reducible rfl)
  try go_frame
  refine wpAnyH_take (i := 6) (oi := { dst := some 2, op := Op.assign (Operand.tmp 15), type := 4, pos := "zzexport_n011_22.go:33", after := #[{ on := 0, ground := Ground.data }, { on := 3, ground := Ground.chain }, { on := 0, ground := Ground.phase }, { on := 1, ground := Ground.textOnly Departure.lateStores }, { on := 2, ground := Ground.textOnly Departure.lateStores }, { on := 3, ground := Ground.textOnly Departure.lateStoresUnsure }, { on := 4, ground := Ground.textOnly Departure.lateStoresUnsure }, { on := 5, ground := Ground.textOnly Departure.lateStores }], guard := none }) (v := ?_) rfl (by kernel_rfl) (by kernel_rfl) (by kernel_rfl) (fun _ _ _ h => h) (Or.inl ⟨by rfl, ?_⟩) (by assumption) ?_
  rotate_left
  · intro wq hSw
    obtain ⟨q1, q2⟩ := hSw
    have a3 : wq.cell? ⟨w2.heap.size, 3, none⟩ = some (.func (Fn.func 21) #[] #[.pointer (some ⟨w.heap.size + 3, 0, none⟩), .pointer (some ⟨w.heap.size + 2, 0, none⟩)]) := by simp [World.cell?, q1]
    have b0 : wq.cell? ⟨w2.heap.size + 2, 0, none⟩ = some (.pointer p) := by simp [World.cell?, q2]
    go_simp
    try (with_reducible rfl)
  try go_frame
  refine wpAnyH_take (i := 7) (oi := { dst := some 3, op := Op.assign (Operand.tmp 19), type := 3, pos := "zzexport_n011_22.go:33", after := #[{ on := 4, ground := Ground.data }, { on := 6, ground := Ground.chain }, { on := 0, ground := Ground.phase }, { on := 1, ground := Ground.phase }, { on := 2, ground := Ground.phase }, { on := 3, ground := Ground.phase }, { on := 4, ground := Ground.phase }, { on := 5, ground := Ground.textOnly Departure.lateStores }, { on := 6, ground := Ground.phase }], guard := none }) (v := ?_) rfl (by kernel_rfl) (by kernel_rfl) (by kernel_rfl) (fun _ _ _ h => h) (Or.inl ⟨by rfl, ?_⟩) (by assumption) ?_
  rotate_left
  · intro wq hSw
    obtain ⟨q1, q2⟩ := hSw
    have a3 : wq.cell? ⟨w2.heap.size, 3, none⟩ = some (.func (Fn.func 21) #[] #[.pointer (some ⟨w.heap.size + 3, 0, none⟩), .pointer (some ⟨w.heap.size + 2, 0, none⟩)]) := by simp [World.cell?, q1]
    have b0 : wq.cell? ⟨w2.heap.size + 2, 0, none⟩ = some (.pointer p) := by simp [World.cell?, q2]
    go_simp
    try (with_reducible rfl)
  try go_frame
  refine wpAnyH_take (i := 8) (oi := { dst := some 4, op := Op.assign (Operand.tmp 20), type := 22, pos := "zzexport_n011_22.go:33", after := #[{ on := 5, ground := Ground.data }, { on := 7, ground := Ground.chain }, { on := 0, ground := Ground.phase }, { on := 1, ground := Ground.phase }, { on := 2, ground := Ground.phase }, { on := 3, ground := Ground.phase }, { on := 4, ground := Ground.phase }, { on := 5, ground := Ground.phase }, { on := 6, ground := Ground.phase }, { on := 7, ground := Ground.phase }], guard := none }) (v := ?_) rfl (by kernel_rfl) (by kernel_rfl) (by kernel_rfl) (fun _ _ _ h => h) (Or.inl ⟨by rfl, ?_⟩) (by assumption) ?_
  rotate_left
  · intro wq hSw
    obtain ⟨q1, q2⟩ := hSw
    have a3 : wq.cell? ⟨w2.heap.size, 3, none⟩ = some (.func (Fn.func 21) #[] #[.pointer (some ⟨w.heap.size + 3, 0, none⟩), .pointer (some ⟨w.heap.size + 2, 0, none⟩)]) := by simp [World.cell?, q1]
    have b0 : wq.cell? ⟨w2.heap.size + 2, 0, none⟩ = some (.pointer p) := by simp [World.cell?, q2]
    go_simp
    try (with_reducible rfl)
  try go_frame
  refine wpAnyH_done (by kernel_rfl) ?_ _
  go_wp2
  refine bodyPost_ret (v := .tuple #[.bool ob, .int .i64 n, .pointer p]) (by simp [results, Tryf.results6, go_sem]) rfl ⟨⟨_, _, rfl⟩, B5.out⟩
end Go.Proofs.YtlhdihdlkejjdaaFmt.DfH
