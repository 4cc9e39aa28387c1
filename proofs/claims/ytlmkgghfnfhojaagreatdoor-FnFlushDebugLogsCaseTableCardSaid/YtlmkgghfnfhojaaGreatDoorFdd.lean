/- levelOf, newQuery, flushDebugLogs and its two callers, loggedMsgs by their contracts. Conditions: lengths. -/
import Derived.Test.YtlmkgghfnfhojaaGreatDoorFdc
import Derived.Test.YtlmkgghfnfhojaaGreatDoorFdb
namespace Go.Proofs.YtlmkgghfnfhojaaGreatDoor.Fdd
open Go.RowKit Go.Deep Go.MuLone Go.Proofs.YtlmkgghfnfhojaaGreatDoor.Base Go.Proofs.YtlmkgghfnfhojaaGreatDoor.Sls Go.Proofs.YtlmkgghfnfhojaaGreatDoor.Lk Go.Proofs.YtlmkgghfnfhojaaGreatDoor.Lm Go.Proofs.YtlmkgghfnfhojaaGreatDoor.Ln Go.Proofs.YtlmkgghfnfhojaaGreatDoor.Fda Go.Proofs.YtlmkgghfnfhojaaGreatDoor.Fdb Go.Proofs.YtlmkgghfnfhojaaGreatDoor.Fdc
set_option linter.unusedVariables false
theorem level7 (i : Int) (w : World) (h0 : 0 ≤ i) (h1 : i ≤ 6) : Calls Tryz.prog 7 #[.int .i64 i] w fun e w' => e = .returned (.int .i8 i) ∧ w = w' := by
  obtain rfl | rfl | rfl | rfl | rfl | rfl | rfl : i = 0 ∨ i = 1 ∨ i = 2 ∨ i = 3 ∨ i = 4 ∨ i = 5 ∨ i = 6 := by omega
  all_goals
    go_enter Tryz.func7, Tryz.ntmps7
    go_wp2
    go_ret
    exact ⟨rfl, rfl⟩
def New (w : World) (e : Ending) (w' : World) : Prop := ∃ K M E S, e = .returned (logv K M E S 3) ∧ Below w.heap.size w w' ∧ Lg w' K M E S 0 false w'.heap.size (.slice none 0 0) [] ∧ w.heap.size ≤ K ∧ w.heap.size ≤ M ∧ w.heap.size ≤ E ∧ w.heap.size ≤ S
theorem newE (w : World) : Calls Tryz.prog 16 #[.int .u8 0, .map none] w (New w) := by
  refine (newLog 0 w).mono ?_
  rintro e w2 ⟨rfl, hb, hl⟩
  exact ⟨_, _, _, _, rfl, hb, hl, by omega, by omega, by omega, by omega⟩
/-- A resolver at block R that holds the log. -/
def Rs (w : World) (R K M E S : Nat) (lvl : Int) : Prop := ∃ cs, w.heap[R]? = some (.cells cs 129 (0, 0)) ∧ cs[1]? = some (.func (Fn.func 18) #[] #[.pointer (some ⟨K, 0, none⟩), .pointer (some ⟨M, 0, none⟩), .pointer (some ⟨E, 0, none⟩), .pointer (some ⟨S, 0, none⟩)]) ∧ cs[2]? = some (.func (Fn.func 21) #[] #[.pointer (some ⟨M, 0, none⟩), .pointer (some ⟨E, 0, none⟩)]) ∧ cs[3]? = some (.func (Fn.func 22) #[] #[.pointer (some ⟨M, 0, none⟩), .pointer (some ⟨S, 0, none⟩)]) ∧ cs[4]? = some (.func (Fn.func 23) #[] #[.pointer (some ⟨M, 0, none⟩), .pointer (some ⟨S, 0, none⟩)]) ∧ cs[5]? = some (.int .i8 lvl) ∧ cs[6]? = some (.map none)
section
variable {w w' : World} {R K M E S : Nat} {lvl : Int}
theorem Rs.lt (h : Rs w R K M E S lvl) : R < w.heap.size := by
  obtain ⟨cs, hb, _⟩ := h
  exact lt_of_block hb
theorem Rs.to (h : Rs w R K M E S lvl) (e : w'.heap[R]? = w.heap[R]?) : Rs w' R K M E S lvl := by
  obtain ⟨cs, hb, h⟩ := h
  exact ⟨cs, e.trans hb, h⟩
theorem Rs.cells (h : Rs w R K M E S lvl) : w.cell? ⟨R, 1, none⟩ = some (.func (Fn.func 18) #[] #[.pointer (some ⟨K, 0, none⟩), .pointer (some ⟨M, 0, none⟩), .pointer (some ⟨E, 0, none⟩), .pointer (some ⟨S, 0, none⟩)]) ∧ w.cell? ⟨R, 2, none⟩ = some (.func (Fn.func 21) #[] #[.pointer (some ⟨M, 0, none⟩), .pointer (some ⟨E, 0, none⟩)]) ∧ w.cell? ⟨R, 3, none⟩ = some (.func (Fn.func 22) #[] #[.pointer (some ⟨M, 0, none⟩), .pointer (some ⟨S, 0, none⟩)]) ∧ w.cell? ⟨R, 4, none⟩ = some (.func (Fn.func 23) #[] #[.pointer (some ⟨M, 0, none⟩), .pointer (some ⟨S, 0, none⟩)]) ∧ w.cell? ⟨R, 5, none⟩ = some (.int .i8 lvl) ∧ w.cell? ⟨R, 6, none⟩ = some (.map none) := by
  obtain ⟨cs, hb, h1, h2, h3, h4, h5, h6⟩ := h
  refine ⟨?_, ?_, ?_, ?_, ?_, ?_⟩ <;> simp [World.cell?, *]
end
theorem size129 : 6 < Tryz.zeroCells129.size := of_decide_eq_true (show decide (6 < Tryz.zeroCells129.size) = true by kernel_rfl)
theorem rs_new (w : World) (K M E S : Nat) (lvl : Int) : Rs (w.alloc (.cells ((((((Tryz.zeroCells129.setIfInBounds 1 (.func (Fn.func 18) #[] #[.pointer (some ⟨K, 0, none⟩), .pointer (some ⟨M, 0, none⟩), .pointer (some ⟨E, 0, none⟩), .pointer (some ⟨S, 0, none⟩)])).setIfInBounds 2 (.func (Fn.func 21) #[] #[.pointer (some ⟨M, 0, none⟩), .pointer (some ⟨E, 0, none⟩)])).setIfInBounds 3 (.func (Fn.func 22) #[] #[.pointer (some ⟨M, 0, none⟩), .pointer (some ⟨S, 0, none⟩)])).setIfInBounds 4 (.func (Fn.func 23) #[] #[.pointer (some ⟨M, 0, none⟩), .pointer (some ⟨S, 0, none⟩)])).setIfInBounds 5 (.int .i8 lvl)).setIfInBounds 6 (.map none)) 129)) w.heap.size K M E S lvl := by
  have h := size129
  refine ⟨_, heap_alloc_new w _, ?_, ?_, ?_, ?_, ?_, ?_⟩ <;> simp <;> omega
/-- The query that newQuery makes. -/
def qv (R : Nat) (pd : Option Addr) : Value := .agg #[.pointer (some ⟨R, 0, none⟩), .pointer none, .pointer pd, .int .u8 0]
def Qd (lvl : Int) (pd : Option Addr) (w : World) (e : Ending) (w' : World) : Prop :=
  ∃ R K M E S base, e = .returned (qv R pd) ∧ Rs w' R K M E S lvl ∧ Lg w' K M E S 0 false base (.slice none 0 0) [] ∧ Below w.heap.size w w' ∧ w.heap.size ≤ K ∧ w.heap.size ≤ M ∧ w.heap.size ≤ E ∧ w.heap.size ≤ S ∧ base ≤ R
set_option maxRecDepth 20000 in
theorem query10 (lvl : Int) (pd : Option Addr) (w : World) : Calls Tryz.prog 10 #[.int .i8 lvl, .pointer pd] w (Qd lvl pd w) := by
  have NL := Lib.hid (newE (w.alloc (.cells #[.pointer none, .pointer none, .pointer none, .int .u8 0] 34)))
  have hsf := run_store_func
  go_enter Tryz.func10, Tryz.ntmps10
  go_wp2_with (fail)
  refine NL.out.mono ?_
  rintro e w2 ⟨K, M, E, S, rfl, hb2, hl2, kK, kM, kE, kS⟩
  rw [World.size_alloc] at kK kM kE kS
  have HB2 := Lib.hid hb2; have HL2 := Lib.hid hl2
  have z2 := hb2.size
  rw [World.size_alloc] at z2
  have l2 : w2.heap[w.heap.size]? = some (.cells #[.pointer none, .pointer none, .pointer none, .int .u8 0] 34 (0, 0)) := (hb2.block _ (by simp)).trans (heap_alloc_new w _)
  have HX2 := Lib.hid l2
  have l3 : ∀ o o', ((w2.alloc o).alloc o').heap[w.heap.size]? = some (.cells #[.pointer none, .pointer none, .pointer none, .int .u8 0] 34 (0, 0)) := fun o o' => (blk_alloc_lt _ _ _ (by simp; omega)).trans ((blk_alloc_lt _ _ _ (by omega)).trans l2)
  have c0 : ∀ o o', ((w2.alloc o).alloc o').cell? ⟨w.heap.size, 0, none⟩ = some (.pointer none) := fun o o' => by simp [World.cell?, l3]
  have f0 : ∀ o o', ((w2.alloc o).alloc o').frozen? ⟨w.heap.size, 0, none⟩ = false := fun o o' => by simp [World.frozen?, l3]
  have c1 : ∀ o o', ((w2.alloc o).alloc o').cell? ⟨w.heap.size, 1, none⟩ = some (.pointer none) := fun o o' => by simp [World.cell?, l3]
  have f1 : ∀ o o', ((w2.alloc o).alloc o').frozen? ⟨w.heap.size, 1, none⟩ = false := fun o o' => by simp [World.frozen?, l3]
  have c2 : ∀ o o', ((w2.alloc o).alloc o').cell? ⟨w.heap.size, 2, none⟩ = some (.pointer none) := fun o o' => by simp [World.cell?, l3]
  have f2 : ∀ o o', ((w2.alloc o).alloc o').frozen? ⟨w.heap.size, 2, none⟩ = false := fun o o' => by simp [World.frozen?, l3]
  have c3 : ∀ o o', ((w2.alloc o).alloc o').cell? ⟨w.heap.size, 3, none⟩ = some (.int .u8 0) := fun o o' => by simp [World.cell?, l3]
  have f3 : ∀ o o', ((w2.alloc o).alloc o').frozen? ⟨w.heap.size, 3, none⟩ = false := fun o o' => by simp [World.frozen?, l3]
  clear hb2 hl2 l2 l3
  unfold logv ptr
  go_wp2_with (fail)
  refine bodyPost_ret (v := qv (w2.heap.size + 1) pd) (by simp [results, Tryz.results10, go_sem, qv, *]) rfl ?_
  clear c0 c1 c2 c3 f0 f1 f2 f3
  have RS := rs_new (w2.alloc (.cells #[.func (Fn.func 18) #[] #[.pointer (some ⟨K, 0, none⟩), .pointer (some ⟨M, 0, none⟩), .pointer (some ⟨E, 0, none⟩), .pointer (some ⟨S, 0, none⟩)], .func (Fn.func 21) #[] #[.pointer (some ⟨M, 0, none⟩), .pointer (some ⟨E, 0, none⟩)], .func (Fn.func 22) #[] #[.pointer (some ⟨M, 0, none⟩), .pointer (some ⟨S, 0, none⟩)], .func (Fn.func 23) #[] #[.pointer (some ⟨M, 0, none⟩), .pointer (some ⟨S, 0, none⟩)], .int .i8 lvl, .map none] 57)) K M E S lvl
  rw [World.size_alloc] at RS
  have L4 := (HL2.out.alloc (.cells #[.func (Fn.func 18) #[] #[.pointer (some ⟨K, 0, none⟩), .pointer (some ⟨M, 0, none⟩), .pointer (some ⟨E, 0, none⟩), .pointer (some ⟨S, 0, none⟩)], .func (Fn.func 21) #[] #[.pointer (some ⟨M, 0, none⟩), .pointer (some ⟨E, 0, none⟩)], .func (Fn.func 22) #[] #[.pointer (some ⟨M, 0, none⟩), .pointer (some ⟨S, 0, none⟩)], .func (Fn.func 23) #[] #[.pointer (some ⟨M, 0, none⟩), .pointer (some ⟨S, 0, none⟩)], .int .i8 lvl, .map none] 57)).alloc (.cells ((((((Tryz.zeroCells129.setIfInBounds 1 (.func (Fn.func 18) #[] #[.pointer (some ⟨K, 0, none⟩), .pointer (some ⟨M, 0, none⟩), .pointer (some ⟨E, 0, none⟩), .pointer (some ⟨S, 0, none⟩)])).setIfInBounds 2 (.func (Fn.func 21) #[] #[.pointer (some ⟨M, 0, none⟩), .pointer (some ⟨E, 0, none⟩)])).setIfInBounds 3 (.func (Fn.func 22) #[] #[.pointer (some ⟨M, 0, none⟩), .pointer (some ⟨S, 0, none⟩)])).setIfInBounds 4 (.func (Fn.func 23) #[] #[.pointer (some ⟨M, 0, none⟩), .pointer (some ⟨S, 0, none⟩)])).setIfInBounds 5 (.int .i8 lvl)).setIfInBounds 6 (.map none)) 129)
  have B4 : Below w.heap.size w ((w2.alloc (.cells #[.func (Fn.func 18) #[] #[.pointer (some ⟨K, 0, none⟩), .pointer (some ⟨M, 0, none⟩), .pointer (some ⟨E, 0, none⟩), .pointer (some ⟨S, 0, none⟩)], .func (Fn.func 21) #[] #[.pointer (some ⟨M, 0, none⟩), .pointer (some ⟨E, 0, none⟩)], .func (Fn.func 22) #[] #[.pointer (some ⟨M, 0, none⟩), .pointer (some ⟨S, 0, none⟩)], .func (Fn.func 23) #[] #[.pointer (some ⟨M, 0, none⟩), .pointer (some ⟨S, 0, none⟩)], .int .i8 lvl, .map none] 57)).alloc (.cells ((((((Tryz.zeroCells129.setIfInBounds 1 (.func (Fn.func 18) #[] #[.pointer (some ⟨K, 0, none⟩), .pointer (some ⟨M, 0, none⟩), .pointer (some ⟨E, 0, none⟩), .pointer (some ⟨S, 0, none⟩)])).setIfInBounds 2 (.func (Fn.func 21) #[] #[.pointer (some ⟨M, 0, none⟩), .pointer (some ⟨E, 0, none⟩)])).setIfInBounds 3 (.func (Fn.func 22) #[] #[.pointer (some ⟨M, 0, none⟩), .pointer (some ⟨S, 0, none⟩)])).setIfInBounds 4 (.func (Fn.func 23) #[] #[.pointer (some ⟨M, 0, none⟩), .pointer (some ⟨S, 0, none⟩)])).setIfInBounds 5 (.int .i8 lvl)).setIfInBounds 6 (.map none)) 129)) := ((((Below.refl _ w).alloc (Nat.le_refl _) _).trans (HB2.out.mono (by simp))).alloc (by omega) _).alloc (by simp; omega) _
  have Z4 : ((w2.alloc (.cells #[.func (Fn.func 18) #[] #[.pointer (some ⟨K, 0, none⟩), .pointer (some ⟨M, 0, none⟩), .pointer (some ⟨E, 0, none⟩), .pointer (some ⟨S, 0, none⟩)], .func (Fn.func 21) #[] #[.pointer (some ⟨M, 0, none⟩), .pointer (some ⟨E, 0, none⟩)], .func (Fn.func 22) #[] #[.pointer (some ⟨M, 0, none⟩), .pointer (some ⟨S, 0, none⟩)], .func (Fn.func 23) #[] #[.pointer (some ⟨M, 0, none⟩), .pointer (some ⟨S, 0, none⟩)], .int .i8 lvl, .map none] 57)).alloc (.cells ((((((Tryz.zeroCells129.setIfInBounds 1 (.func (Fn.func 18) #[] #[.pointer (some ⟨K, 0, none⟩), .pointer (some ⟨M, 0, none⟩), .pointer (some ⟨E, 0, none⟩), .pointer (some ⟨S, 0, none⟩)])).setIfInBounds 2 (.func (Fn.func 21) #[] #[.pointer (some ⟨M, 0, none⟩), .pointer (some ⟨E, 0, none⟩)])).setIfInBounds 3 (.func (Fn.func 22) #[] #[.pointer (some ⟨M, 0, none⟩), .pointer (some ⟨S, 0, none⟩)])).setIfInBounds 4 (.func (Fn.func 23) #[] #[.pointer (some ⟨M, 0, none⟩), .pointer (some ⟨S, 0, none⟩)])).setIfInBounds 5 (.int .i8 lvl)).setIfInBounds 6 (.map none)) 129)).heap.size = w2.heap.size + 2 := by simp
  generalize (w2.alloc (.cells #[.func (Fn.func 18) #[] #[.pointer (some ⟨K, 0, none⟩), .pointer (some ⟨M, 0, none⟩), .pointer (some ⟨E, 0, none⟩), .pointer (some ⟨S, 0, none⟩)], .func (Fn.func 21) #[] #[.pointer (some ⟨M, 0, none⟩), .pointer (some ⟨E, 0, none⟩)], .func (Fn.func 22) #[] #[.pointer (some ⟨M, 0, none⟩), .pointer (some ⟨S, 0, none⟩)], .func (Fn.func 23) #[] #[.pointer (some ⟨M, 0, none⟩), .pointer (some ⟨S, 0, none⟩)], .int .i8 lvl, .map none] 57)).alloc (.cells ((((((Tryz.zeroCells129.setIfInBounds 1 (.func (Fn.func 18) #[] #[.pointer (some ⟨K, 0, none⟩), .pointer (some ⟨M, 0, none⟩), .pointer (some ⟨E, 0, none⟩), .pointer (some ⟨S, 0, none⟩)])).setIfInBounds 2 (.func (Fn.func 21) #[] #[.pointer (some ⟨M, 0, none⟩), .pointer (some ⟨E, 0, none⟩)])).setIfInBounds 3 (.func (Fn.func 22) #[] #[.pointer (some ⟨M, 0, none⟩), .pointer (some ⟨S, 0, none⟩)])).setIfInBounds 4 (.func (Fn.func 23) #[] #[.pointer (some ⟨M, 0, none⟩), .pointer (some ⟨S, 0, none⟩)])).setIfInBounds 5 (.int .i8 lvl)).setIfInBounds 6 (.map none)) 129) = w4 at RS L4 B4 Z4 ⊢
  have far : ∀ (u0 u1 u2 u3 : Value) q, q ≠ w.heap.size → ((((w4.setCell ⟨w.heap.size, 0, none⟩ u0).setCell ⟨w.heap.size, 1, none⟩ u1).setCell ⟨w.heap.size, 2, none⟩ u2).setCell ⟨w.heap.size, 3, none⟩ u3).heap[q]? = w4.heap[q]? := fun u0 u1 u2 u3 q hne => by
    repeat rw [blk_setCell_other _ _ _ _ (by exact hne)]
  have zz : ∀ (u0 u1 u2 u3 : Value), ((((w4.setCell ⟨w.heap.size, 0, none⟩ u0).setCell ⟨w.heap.size, 1, none⟩ u1).setCell ⟨w.heap.size, 2, none⟩ u2).setCell ⟨w.heap.size, 3, none⟩ u3).heap.size = w4.heap.size := fun u0 u1 u2 u3 => by simp
  have bel : ∀ (u0 u1 u2 u3 : Value), Below w.heap.size w ((((w4.setCell ⟨w.heap.size, 0, none⟩ u0).setCell ⟨w.heap.size, 1, none⟩ u1).setCell ⟨w.heap.size, 2, none⟩ u2).setCell ⟨w.heap.size, 3, none⟩ u3) := fun u0 u1 u2 u3 =>
    (((B4.setCell (Nat.le_refl _) _).setCell (Nat.le_refl _) _).setCell (Nat.le_refl _) _).setCell (Nat.le_refl _) _
  have lg : ∀ (u0 u1 u2 u3 : Value), Lg ((((w4.setCell ⟨w.heap.size, 0, none⟩ u0).setCell ⟨w.heap.size, 1, none⟩ u1).setCell ⟨w.heap.size, 2, none⟩ u2).setCell ⟨w.heap.size, 3, none⟩ u3) K M E S 0 false w2.heap.size (.slice none 0 0) [] := fun u0 u1 u2 u3 =>
    L4.kept (Nat.le_of_eq (zz u0 u1 u2 u3).symm) (fun q hq => far u0 u1 u2 u3 q (by rcases hq with rfl | rfl | rfl | rfl | hq <;> first | omega | cases hq))
  have rs : ∀ (u0 u1 u2 u3 : Value), Rs ((((w4.setCell ⟨w.heap.size, 0, none⟩ u0).setCell ⟨w.heap.size, 1, none⟩ u1).setCell ⟨w.heap.size, 2, none⟩ u2).setCell ⟨w.heap.size, 3, none⟩ u3) (w2.heap.size + 1) K M E S lvl := fun u0 u1 u2 u3 => RS.to (far u0 u1 u2 u3 _ (by omega))
  exact ⟨w2.heap.size + 1, K, M, E, S, w2.heap.size, rfl, rs _ _ _ _, lg _ _ _ _, bel _ _ _ _, by omega, by omega, by omega, by omega, by omega⟩
theorem flushNil (R : Nat) (mode : Int) (w : World) (h0 : 0 ≤ mode) (h1 : mode ≤ 1) : Calls Tryz.prog 17 #[qv R none, .int .u8 mode] w fun e w' => e = .returned (.tuple #[]) ∧ Below w.heap.size w w' := by
  unfold qv
  go_enter Tryz.func17, Tryz.ntmps17
  go_wp2
  go_end0
  exact ⟨rfl, (Below.refl _ _).alloc (Nat.le_refl _) _⟩
set_option maxRecDepth 20000 in
set_option maxHeartbeats 2000000 in
theorem flush4 (R K M E S d base : Nat) (lvl : Int) (what : ByteArray) (A : Option Addr) (n c : Nat) (w : World) (hR : Rs w R K M E S lvl) (hL : Lg w K M E S 0 false base (.slice none 0 0) []) (hD : w.rowIs d 50 3 (dl what { data := #[] } (.slice A n c))) (hbR : base ≤ R) (hne : d ≠ M ∧ d ≠ S ∧ d ≠ E) :
    Calls Tryz.prog 17 #[qv R (some ⟨d, 0, none⟩), .int .u8 0] w fun e w' => e = .returned (.tuple #[]) ∧ (∃ v', Lg w' K M E S 0 false base v' [⟨A, n, c, { data := #[] }, what, false, 4, 0⟩]) ∧ (∀ q, q ≠ M → q ≠ S → q ≠ E → q < w.heap.size → w'.heap[q]? = w.heap[q]?) ∧ ∀ B, B ≤ M → B ≤ S → B ≤ E → B ≤ base → Below B w w' := by
  obtain ⟨r1, r2, r3, r4, r5, r6⟩ := hR.cells
  have d0 := hD.cell (i := 0) (by omega)
  have d2 := hD.cell (i := 2) (by omega)
  simp only [dl] at d0 d2
  have hRl := hR.lt
  have hdl := hD.lt
  clear hR hD
  unfold qv
  go_enter Tryz.func17, Tryz.ntmps17
  go_wp2_with (fail)
  have GB := Lib.hid (by have := hL.bs; exact this : base ≤ w.heap.size)
  refine wp_region_held_drew (S := fun w' => w'.heap[w.heap.size]? = some (.cells #[.pointer (some ⟨R, 0, none⟩), .pointer none, .pointer (some ⟨d, 0, none⟩), .int .u8 0] 34 (0, 0)) ∧ w'.heap[R]? = w.heap[R]? ∧ w'.heap[d]? = w.heap[d]?) (by kernel_rfl) ⟨heap_alloc_new w _, blk_alloc_lt w _ R hRl, blk_alloc_lt w _ d hdl⟩ (fun hHeld => ?_)
  refine wpAnyH_take (i := 0) (oi := { dst := some 9, op := Op.fieldAddr 34 (Operand.tmp 2) 0, type := 0, pos := "resolver.go:824", after := #[], guard := none }) (v := ?_) rfl (by kernel_rfl) (by kernel_rfl) (by kernel_rfl) (fun _ _ _ h => h) (Or.inl ⟨by rfl, ?_⟩) (by assumption) ?_
  rotate_left
  · intro wq hSw
    obtain ⟨q1, q2, q3⟩ := hSw
    have b0 : wq.cell? ⟨w.heap.size, 0, none⟩ = some (.pointer (some ⟨R, 0, none⟩)) := by simp [World.cell?, q1]
    have b1 : wq.cell? ⟨w.heap.size, 1, none⟩ = some (.pointer none) := by simp [World.cell?, q1]
    have b2 : wq.cell? ⟨w.heap.size, 2, none⟩ = some (.pointer (some ⟨d, 0, none⟩)) := by simp [World.cell?, q1]
    have b3 : wq.cell? ⟨w.heap.size, 3, none⟩ = some (.int .u8 0) := by simp [World.cell?, q1]
    have s1 := (World.cell?_of_block q2 (a := ⟨R, 1, none⟩)).trans r1
    have s2 := (World.cell?_of_block q2 (a := ⟨R, 2, none⟩)).trans r2
    have s3 := (World.cell?_of_block q2 (a := ⟨R, 3, none⟩)).trans r3
    have s4 := (World.cell?_of_block q2 (a := ⟨R, 4, none⟩)).trans r4
    have s5 := (World.cell?_of_block q2 (a := ⟨R, 5, none⟩)).trans r5
    have s6 := (World.cell?_of_block q2 (a := ⟨R, 6, none⟩)).trans r6
    have t0 := (World.cell?_of_block q3 (a := ⟨d, 0, none⟩)).trans d0
    have t2 := (World.cell?_of_block q3 (a := ⟨d, 2, none⟩)).trans d2
    go_simp
    try (with_reducible rfl)
  try go_frame
  refine wpAnyH_take (i := 1) (oi := { dst := some 10, op := Op.load 29 (Operand.tmp 9), type := 29, pos := "resolver.go:824", after := #[{ on := 0, ground := Ground.data }], guard := none }) (v := ?_) rfl (by kernel_rfl) (by kernel_rfl) (by kernel_rfl) (fun _ _ _ h => h) (Or.inl ⟨by rfl, ?_⟩) (by assumption) ?_
  rotate_left
  · intro wq hSw
    obtain ⟨q1, q2, q3⟩ := hSw
    have b0 : wq.cell? ⟨w.heap.size, 0, none⟩ = some (.pointer (some ⟨R, 0, none⟩)) := by simp [World.cell?, q1]
    have b1 : wq.cell? ⟨w.heap.size, 1, none⟩ = some (.pointer none) := by simp [World.cell?, q1]
    have b2 : wq.cell? ⟨w.heap.size, 2, none⟩ = some (.pointer (some ⟨d, 0, none⟩)) := by simp [World.cell?, q1]
    have b3 : wq.cell? ⟨w.heap.size, 3, none⟩ = some (.int .u8 0) := by simp [World.cell?, q1]
    have s1 := (World.cell?_of_block q2 (a := ⟨R, 1, none⟩)).trans r1
    have s2 := (World.cell?_of_block q2 (a := ⟨R, 2, none⟩)).trans r2
    have s3 := (World.cell?_of_block q2 (a := ⟨R, 3, none⟩)).trans r3
    have s4 := (World.cell?_of_block q2 (a := ⟨R, 4, none⟩)).trans r4
    have s5 := (World.cell?_of_block q2 (a := ⟨R, 5, none⟩)).trans r5
    have s6 := (World.cell?_of_block q2 (a := ⟨R, 6, none⟩)).trans r6
    have t0 := (World.cell?_of_block q3 (a := ⟨d, 0, none⟩)).trans d0
    have t2 := (World.cell?_of_block q3 (a := ⟨d, 2, none⟩)).trans d2
    go_simp
    try (with_reducible rfl)
  try go_frame
  refine wpAnyH_take (i := 2) (oi := { dst := some 11, op := Op.nilCheck (Operand.tmp 10), type := 0, pos := "resolver.go:824", after := #[{ on := 1, ground := Ground.data }], guard := none }) (v := ?_) rfl (by kernel_rfl) (by kernel_rfl) (by kernel_rfl) (fun _ _ _ h => h) (Or.inl ⟨by rfl, ?_⟩) (by assumption) ?_
  rotate_left
  · intro wq hSw
    obtain ⟨q1, q2, q3⟩ := hSw
    have b0 : wq.cell? ⟨w.heap.size, 0, none⟩ = some (.pointer (some ⟨R, 0, none⟩)) := by simp [World.cell?, q1]
    have b1 : wq.cell? ⟨w.heap.size, 1, none⟩ = some (.pointer none) := by simp [World.cell?, q1]
    have b2 : wq.cell? ⟨w.heap.size, 2, none⟩ = some (.pointer (some ⟨d, 0, none⟩)) := by simp [World.cell?, q1]
    have b3 : wq.cell? ⟨w.heap.size, 3, none⟩ = some (.int .u8 0) := by simp [World.cell?, q1]
    have s1 := (World.cell?_of_block q2 (a := ⟨R, 1, none⟩)).trans r1
    have s2 := (World.cell?_of_block q2 (a := ⟨R, 2, none⟩)).trans r2
    have s3 := (World.cell?_of_block q2 (a := ⟨R, 3, none⟩)).trans r3
    have s4 := (World.cell?_of_block q2 (a := ⟨R, 4, none⟩)).trans r4
    have s5 := (World.cell?_of_block q2 (a := ⟨R, 5, none⟩)).trans r5
    have s6 := (World.cell?_of_block q2 (a := ⟨R, 6, none⟩)).trans r6
    have t0 := (World.cell?_of_block q3 (a := ⟨d, 0, none⟩)).trans d0
    have t2 := (World.cell?_of_block q3 (a := ⟨d, 2, none⟩)).trans d2
    go_simp
    try (with_reducible rfl)
  try go_frame
  refine wpAnyH_take (i := 3) (oi := { dst := some 12, op := Op.fieldAddr 129 (Operand.tmp 11) 1, type := 0, pos := "resolver.go:824", after := #[{ on := 2, ground := Ground.data }], guard := none }) (v := ?_) rfl (by kernel_rfl) (by kernel_rfl) (by kernel_rfl) (fun _ _ _ h => h) (Or.inl ⟨by rfl, ?_⟩) (by assumption) ?_
  rotate_left
  · intro wq hSw
    obtain ⟨q1, q2, q3⟩ := hSw
    have b0 : wq.cell? ⟨w.heap.size, 0, none⟩ = some (.pointer (some ⟨R, 0, none⟩)) := by simp [World.cell?, q1]
    have b1 : wq.cell? ⟨w.heap.size, 1, none⟩ = some (.pointer none) := by simp [World.cell?, q1]
    have b2 : wq.cell? ⟨w.heap.size, 2, none⟩ = some (.pointer (some ⟨d, 0, none⟩)) := by simp [World.cell?, q1]
    have b3 : wq.cell? ⟨w.heap.size, 3, none⟩ = some (.int .u8 0) := by simp [World.cell?, q1]
    have s1 := (World.cell?_of_block q2 (a := ⟨R, 1, none⟩)).trans r1
    have s2 := (World.cell?_of_block q2 (a := ⟨R, 2, none⟩)).trans r2
    have s3 := (World.cell?_of_block q2 (a := ⟨R, 3, none⟩)).trans r3
    have s4 := (World.cell?_of_block q2 (a := ⟨R, 4, none⟩)).trans r4
    have s5 := (World.cell?_of_block q2 (a := ⟨R, 5, none⟩)).trans r5
    have s6 := (World.cell?_of_block q2 (a := ⟨R, 6, none⟩)).trans r6
    have t0 := (World.cell?_of_block q3 (a := ⟨d, 0, none⟩)).trans d0
    have t2 := (World.cell?_of_block q3 (a := ⟨d, 2, none⟩)).trans d2
    go_simp
    try (with_reducible rfl)
  try go_frame
  refine wpAnyH_take (i := 4) (oi := { dst := some 13, op := Op.load 57 (Operand.tmp 12), type := 57, pos := "resolver.go:824", after := #[{ on := 3, ground := Ground.data }], guard := none }) (v := ?_) rfl (by kernel_rfl) (by kernel_rfl) (by kernel_rfl) (fun _ _ _ h => h) (Or.inl ⟨by rfl, ?_⟩) (by assumption) ?_
  rotate_left
  · intro wq hSw
    obtain ⟨q1, q2, q3⟩ := hSw
    have b0 : wq.cell? ⟨w.heap.size, 0, none⟩ = some (.pointer (some ⟨R, 0, none⟩)) := by simp [World.cell?, q1]
    have b1 : wq.cell? ⟨w.heap.size, 1, none⟩ = some (.pointer none) := by simp [World.cell?, q1]
    have b2 : wq.cell? ⟨w.heap.size, 2, none⟩ = some (.pointer (some ⟨d, 0, none⟩)) := by simp [World.cell?, q1]
    have b3 : wq.cell? ⟨w.heap.size, 3, none⟩ = some (.int .u8 0) := by simp [World.cell?, q1]
    have s1 := (World.cell?_of_block q2 (a := ⟨R, 1, none⟩)).trans r1
    have s2 := (World.cell?_of_block q2 (a := ⟨R, 2, none⟩)).trans r2
    have s3 := (World.cell?_of_block q2 (a := ⟨R, 3, none⟩)).trans r3
    have s4 := (World.cell?_of_block q2 (a := ⟨R, 4, none⟩)).trans r4
    have s5 := (World.cell?_of_block q2 (a := ⟨R, 5, none⟩)).trans r5
    have s6 := (World.cell?_of_block q2 (a := ⟨R, 6, none⟩)).trans r6
    have t0 := (World.cell?_of_block q3 (a := ⟨d, 0, none⟩)).trans d0
    have t2 := (World.cell?_of_block q3 (a := ⟨d, 2, none⟩)).trans d2
    go_simp
    try (with_reducible rfl)
  try go_frame
  refine wpAnyH_take (i := 5) (oi := { dst := some 14, op := Op.build 71 #[], type := 71, pos := "resolver.go:824", after := #[], guard := none }) (v := ?_) rfl (by kernel_rfl) (by kernel_rfl) (by kernel_rfl) (fun _ _ _ h => h) (Or.inl ⟨by rfl, ?_⟩) (by assumption) ?_
  rotate_left
  · intro wq hSw
    obtain ⟨q1, q2, q3⟩ := hSw
    have b0 : wq.cell? ⟨w.heap.size, 0, none⟩ = some (.pointer (some ⟨R, 0, none⟩)) := by simp [World.cell?, q1]
    have b1 : wq.cell? ⟨w.heap.size, 1, none⟩ = some (.pointer none) := by simp [World.cell?, q1]
    have b2 : wq.cell? ⟨w.heap.size, 2, none⟩ = some (.pointer (some ⟨d, 0, none⟩)) := by simp [World.cell?, q1]
    have b3 : wq.cell? ⟨w.heap.size, 3, none⟩ = some (.int .u8 0) := by simp [World.cell?, q1]
    have s1 := (World.cell?_of_block q2 (a := ⟨R, 1, none⟩)).trans r1
    have s2 := (World.cell?_of_block q2 (a := ⟨R, 2, none⟩)).trans r2
    have s3 := (World.cell?_of_block q2 (a := ⟨R, 3, none⟩)).trans r3
    have s4 := (World.cell?_of_block q2 (a := ⟨R, 4, none⟩)).trans r4
    have s5 := (World.cell?_of_block q2 (a := ⟨R, 5, none⟩)).trans r5
    have s6 := (World.cell?_of_block q2 (a := ⟨R, 6, none⟩)).trans r6
    have t0 := (World.cell?_of_block q3 (a := ⟨d, 0, none⟩)).trans d0
    have t2 := (World.cell?_of_block q3 (a := ⟨d, 2, none⟩)).trans d2
    go_simp
    try (with_reducible rfl)
  try go_frame
  refine wpAnyH_take (i := 6) (oi := { dst := some 15, op := Op.fieldAddr 34 (Operand.tmp 2) 2, type := 0, pos := "resolver.go:824", after := #[], guard := none }) (v := ?_) rfl (by kernel_rfl) (by kernel_rfl) (by kernel_rfl) (fun _ _ _ h => h) (Or.inl ⟨by rfl, ?_⟩) (by assumption) ?_
  rotate_left
  · intro wq hSw
    obtain ⟨q1, q2, q3⟩ := hSw
    have b0 : wq.cell? ⟨w.heap.size, 0, none⟩ = some (.pointer (some ⟨R, 0, none⟩)) := by simp [World.cell?, q1]
    have b1 : wq.cell? ⟨w.heap.size, 1, none⟩ = some (.pointer none) := by simp [World.cell?, q1]
    have b2 : wq.cell? ⟨w.heap.size, 2, none⟩ = some (.pointer (some ⟨d, 0, none⟩)) := by simp [World.cell?, q1]
    have b3 : wq.cell? ⟨w.heap.size, 3, none⟩ = some (.int .u8 0) := by simp [World.cell?, q1]
    have s1 := (World.cell?_of_block q2 (a := ⟨R, 1, none⟩)).trans r1
    have s2 := (World.cell?_of_block q2 (a := ⟨R, 2, none⟩)).trans r2
    have s3 := (World.cell?_of_block q2 (a := ⟨R, 3, none⟩)).trans r3
    have s4 := (World.cell?_of_block q2 (a := ⟨R, 4, none⟩)).trans r4
    have s5 := (World.cell?_of_block q2 (a := ⟨R, 5, none⟩)).trans r5
    have s6 := (World.cell?_of_block q2 (a := ⟨R, 6, none⟩)).trans r6
    have t0 := (World.cell?_of_block q3 (a := ⟨d, 0, none⟩)).trans d0
    have t2 := (World.cell?_of_block q3 (a := ⟨d, 2, none⟩)).trans d2
    go_simp
    try (with_reducible rfl)
  try go_frame
  refine wpAnyH_take (i := 7) (oi := { dst := some 16, op := Op.load 31 (Operand.tmp 15), type := 31, pos := "resolver.go:824", after := #[{ on := 6, ground := Ground.data }], guard := none }) (v := ?_) rfl (by kernel_rfl) (by kernel_rfl) (by kernel_rfl) (fun _ _ _ h => h) (Or.inl ⟨by rfl, ?_⟩) (by assumption) ?_
  rotate_left
  · intro wq hSw
    obtain ⟨q1, q2, q3⟩ := hSw
    have b0 : wq.cell? ⟨w.heap.size, 0, none⟩ = some (.pointer (some ⟨R, 0, none⟩)) := by simp [World.cell?, q1]
    have b1 : wq.cell? ⟨w.heap.size, 1, none⟩ = some (.pointer none) := by simp [World.cell?, q1]
    have b2 : wq.cell? ⟨w.heap.size, 2, none⟩ = some (.pointer (some ⟨d, 0, none⟩)) := by simp [World.cell?, q1]
    have b3 : wq.cell? ⟨w.heap.size, 3, none⟩ = some (.int .u8 0) := by simp [World.cell?, q1]
    have s1 := (World.cell?_of_block q2 (a := ⟨R, 1, none⟩)).trans r1
    have s2 := (World.cell?_of_block q2 (a := ⟨R, 2, none⟩)).trans r2
    have s3 := (World.cell?_of_block q2 (a := ⟨R, 3, none⟩)).trans r3
    have s4 := (World.cell?_of_block q2 (a := ⟨R, 4, none⟩)).trans r4
    have s5 := (World.cell?_of_block q2 (a := ⟨R, 5, none⟩)).trans r5
    have s6 := (World.cell?_of_block q2 (a := ⟨R, 6, none⟩)).trans r6
    have t0 := (World.cell?_of_block q3 (a := ⟨d, 0, none⟩)).trans d0
    have t2 := (World.cell?_of_block q3 (a := ⟨d, 2, none⟩)).trans d2
    go_simp
    try (with_reducible rfl)
  try go_frame
  refine wpAnyH_take (i := 8) (oi := { dst := some 17, op := Op.nilCheck (Operand.tmp 16), type := 0, pos := "resolver.go:824", after := #[{ on := 7, ground := Ground.data }], guard := none }) (v := ?_) rfl (by kernel_rfl) (by kernel_rfl) (by kernel_rfl) (fun _ _ _ h => h) (Or.inl ⟨by rfl, ?_⟩) (by assumption) ?_
  rotate_left
  · intro wq hSw
    obtain ⟨q1, q2, q3⟩ := hSw
    have b0 : wq.cell? ⟨w.heap.size, 0, none⟩ = some (.pointer (some ⟨R, 0, none⟩)) := by simp [World.cell?, q1]
    have b1 : wq.cell? ⟨w.heap.size, 1, none⟩ = some (.pointer none) := by simp [World.cell?, q1]
    have b2 : wq.cell? ⟨w.heap.size, 2, none⟩ = some (.pointer (some ⟨d, 0, none⟩)) := by simp [World.cell?, q1]
    have b3 : wq.cell? ⟨w.heap.size, 3, none⟩ = some (.int .u8 0) := by simp [World.cell?, q1]
    have s1 := (World.cell?_of_block q2 (a := ⟨R, 1, none⟩)).trans r1
    have s2 := (World.cell?_of_block q2 (a := ⟨R, 2, none⟩)).trans r2
    have s3 := (World.cell?_of_block q2 (a := ⟨R, 3, none⟩)).trans r3
    have s4 := (World.cell?_of_block q2 (a := ⟨R, 4, none⟩)).trans r4
    have s5 := (World.cell?_of_block q2 (a := ⟨R, 5, none⟩)).trans r5
    have s6 := (World.cell?_of_block q2 (a := ⟨R, 6, none⟩)).trans r6
    have t0 := (World.cell?_of_block q3 (a := ⟨d, 0, none⟩)).trans d0
    have t2 := (World.cell?_of_block q3 (a := ⟨d, 2, none⟩)).trans d2
    go_simp
    try (with_reducible rfl)
  try go_frame
  refine wpAnyH_take (i := 9) (oi := { dst := some 18, op := Op.fieldAddr 50 (Operand.tmp 17) 0, type := 0, pos := "resolver.go:824", after := #[{ on := 8, ground := Ground.data }], guard := none }) (v := ?_) rfl (by kernel_rfl) (by kernel_rfl) (by kernel_rfl) (fun _ _ _ h => h) (Or.inl ⟨by rfl, ?_⟩) (by assumption) ?_
  rotate_left
  · intro wq hSw
    obtain ⟨q1, q2, q3⟩ := hSw
    have b0 : wq.cell? ⟨w.heap.size, 0, none⟩ = some (.pointer (some ⟨R, 0, none⟩)) := by simp [World.cell?, q1]
    have b1 : wq.cell? ⟨w.heap.size, 1, none⟩ = some (.pointer none) := by simp [World.cell?, q1]
    have b2 : wq.cell? ⟨w.heap.size, 2, none⟩ = some (.pointer (some ⟨d, 0, none⟩)) := by simp [World.cell?, q1]
    have b3 : wq.cell? ⟨w.heap.size, 3, none⟩ = some (.int .u8 0) := by simp [World.cell?, q1]
    have s1 := (World.cell?_of_block q2 (a := ⟨R, 1, none⟩)).trans r1
    have s2 := (World.cell?_of_block q2 (a := ⟨R, 2, none⟩)).trans r2
    have s3 := (World.cell?_of_block q2 (a := ⟨R, 3, none⟩)).trans r3
    have s4 := (World.cell?_of_block q2 (a := ⟨R, 4, none⟩)).trans r4
    have s5 := (World.cell?_of_block q2 (a := ⟨R, 5, none⟩)).trans r5
    have s6 := (World.cell?_of_block q2 (a := ⟨R, 6, none⟩)).trans r6
    have t0 := (World.cell?_of_block q3 (a := ⟨d, 0, none⟩)).trans d0
    have t2 := (World.cell?_of_block q3 (a := ⟨d, 2, none⟩)).trans d2
    go_simp
    try (with_reducible rfl)
  try go_frame
  refine wpAnyH_take (i := 10) (oi := { dst := some 19, op := Op.load 9 (Operand.tmp 18), type := 9, pos := "resolver.go:824", after := #[{ on := 9, ground := Ground.data }], guard := none }) (v := ?_) rfl (by kernel_rfl) (by kernel_rfl) (by kernel_rfl) (fun _ _ _ h => h) (Or.inl ⟨by rfl, ?_⟩) (by assumption) ?_
  rotate_left
  · intro wq hSw
    obtain ⟨q1, q2, q3⟩ := hSw
    have b0 : wq.cell? ⟨w.heap.size, 0, none⟩ = some (.pointer (some ⟨R, 0, none⟩)) := by simp [World.cell?, q1]
    have b1 : wq.cell? ⟨w.heap.size, 1, none⟩ = some (.pointer none) := by simp [World.cell?, q1]
    have b2 : wq.cell? ⟨w.heap.size, 2, none⟩ = some (.pointer (some ⟨d, 0, none⟩)) := by simp [World.cell?, q1]
    have b3 : wq.cell? ⟨w.heap.size, 3, none⟩ = some (.int .u8 0) := by simp [World.cell?, q1]
    have s1 := (World.cell?_of_block q2 (a := ⟨R, 1, none⟩)).trans r1
    have s2 := (World.cell?_of_block q2 (a := ⟨R, 2, none⟩)).trans r2
    have s3 := (World.cell?_of_block q2 (a := ⟨R, 3, none⟩)).trans r3
    have s4 := (World.cell?_of_block q2 (a := ⟨R, 4, none⟩)).trans r4
    have s5 := (World.cell?_of_block q2 (a := ⟨R, 5, none⟩)).trans r5
    have s6 := (World.cell?_of_block q2 (a := ⟨R, 6, none⟩)).trans r6
    have t0 := (World.cell?_of_block q3 (a := ⟨d, 0, none⟩)).trans d0
    have t2 := (World.cell?_of_block q3 (a := ⟨d, 2, none⟩)).trans d2
    go_simp
    try (with_reducible rfl)
  try go_frame
  refine wpAnyH_take (i := 11) (oi := { dst := some 20, op := Op.fieldAddr 34 (Operand.tmp 2) 2, type := 0, pos := "resolver.go:824", after := #[], guard := none }) (v := ?_) rfl (by kernel_rfl) (by kernel_rfl) (by kernel_rfl) (fun _ _ _ h => h) (Or.inl ⟨by rfl, ?_⟩) (by assumption) ?_
  rotate_left
  · intro wq hSw
    obtain ⟨q1, q2, q3⟩ := hSw
    have b0 : wq.cell? ⟨w.heap.size, 0, none⟩ = some (.pointer (some ⟨R, 0, none⟩)) := by simp [World.cell?, q1]
    have b1 : wq.cell? ⟨w.heap.size, 1, none⟩ = some (.pointer none) := by simp [World.cell?, q1]
    have b2 : wq.cell? ⟨w.heap.size, 2, none⟩ = some (.pointer (some ⟨d, 0, none⟩)) := by simp [World.cell?, q1]
    have b3 : wq.cell? ⟨w.heap.size, 3, none⟩ = some (.int .u8 0) := by simp [World.cell?, q1]
    have s1 := (World.cell?_of_block q2 (a := ⟨R, 1, none⟩)).trans r1
    have s2 := (World.cell?_of_block q2 (a := ⟨R, 2, none⟩)).trans r2
    have s3 := (World.cell?_of_block q2 (a := ⟨R, 3, none⟩)).trans r3
    have s4 := (World.cell?_of_block q2 (a := ⟨R, 4, none⟩)).trans r4
    have s5 := (World.cell?_of_block q2 (a := ⟨R, 5, none⟩)).trans r5
    have s6 := (World.cell?_of_block q2 (a := ⟨R, 6, none⟩)).trans r6
    have t0 := (World.cell?_of_block q3 (a := ⟨d, 0, none⟩)).trans d0
    have t2 := (World.cell?_of_block q3 (a := ⟨d, 2, none⟩)).trans d2
    go_simp
    try (with_reducible rfl)
  try go_frame
  refine wpAnyH_take (i := 12) (oi := { dst := some 21, op := Op.load 31 (Operand.tmp 20), type := 31, pos := "resolver.go:824", after := #[{ on := 11, ground := Ground.data }], guard := none }) (v := ?_) rfl (by kernel_rfl) (by kernel_rfl) (by kernel_rfl) (fun _ _ _ h => h) (Or.inl ⟨by rfl, ?_⟩) (by assumption) ?_
  rotate_left
  · intro wq hSw
    obtain ⟨q1, q2, q3⟩ := hSw
    have b0 : wq.cell? ⟨w.heap.size, 0, none⟩ = some (.pointer (some ⟨R, 0, none⟩)) := by simp [World.cell?, q1]
    have b1 : wq.cell? ⟨w.heap.size, 1, none⟩ = some (.pointer none) := by simp [World.cell?, q1]
    have b2 : wq.cell? ⟨w.heap.size, 2, none⟩ = some (.pointer (some ⟨d, 0, none⟩)) := by simp [World.cell?, q1]
    have b3 : wq.cell? ⟨w.heap.size, 3, none⟩ = some (.int .u8 0) := by simp [World.cell?, q1]
    have s1 := (World.cell?_of_block q2 (a := ⟨R, 1, none⟩)).trans r1
    have s2 := (World.cell?_of_block q2 (a := ⟨R, 2, none⟩)).trans r2
    have s3 := (World.cell?_of_block q2 (a := ⟨R, 3, none⟩)).trans r3
    have s4 := (World.cell?_of_block q2 (a := ⟨R, 4, none⟩)).trans r4
    have s5 := (World.cell?_of_block q2 (a := ⟨R, 5, none⟩)).trans r5
    have s6 := (World.cell?_of_block q2 (a := ⟨R, 6, none⟩)).trans r6
    have t0 := (World.cell?_of_block q3 (a := ⟨d, 0, none⟩)).trans d0
    have t2 := (World.cell?_of_block q3 (a := ⟨d, 2, none⟩)).trans d2
    go_simp
    try (with_reducible rfl)
  try go_frame
  refine wpAnyH_take (i := 13) (oi := { dst := some 22, op := Op.nilCheck (Operand.tmp 21), type := 0, pos := "resolver.go:824", after := #[{ on := 12, ground := Ground.data }], guard := none }) (v := ?_) rfl (by kernel_rfl) (by kernel_rfl) (by kernel_rfl) (fun _ _ _ h => h) (Or.inl ⟨by rfl, ?_⟩) (by assumption) ?_
  rotate_left
  · intro wq hSw
    obtain ⟨q1, q2, q3⟩ := hSw
    have b0 : wq.cell? ⟨w.heap.size, 0, none⟩ = some (.pointer (some ⟨R, 0, none⟩)) := by simp [World.cell?, q1]
    have b1 : wq.cell? ⟨w.heap.size, 1, none⟩ = some (.pointer none) := by simp [World.cell?, q1]
    have b2 : wq.cell? ⟨w.heap.size, 2, none⟩ = some (.pointer (some ⟨d, 0, none⟩)) := by simp [World.cell?, q1]
    have b3 : wq.cell? ⟨w.heap.size, 3, none⟩ = some (.int .u8 0) := by simp [World.cell?, q1]
    have s1 := (World.cell?_of_block q2 (a := ⟨R, 1, none⟩)).trans r1
    have s2 := (World.cell?_of_block q2 (a := ⟨R, 2, none⟩)).trans r2
    have s3 := (World.cell?_of_block q2 (a := ⟨R, 3, none⟩)).trans r3
    have s4 := (World.cell?_of_block q2 (a := ⟨R, 4, none⟩)).trans r4
    have s5 := (World.cell?_of_block q2 (a := ⟨R, 5, none⟩)).trans r5
    have s6 := (World.cell?_of_block q2 (a := ⟨R, 6, none⟩)).trans r6
    have t0 := (World.cell?_of_block q3 (a := ⟨d, 0, none⟩)).trans d0
    have t2 := (World.cell?_of_block q3 (a := ⟨d, 2, none⟩)).trans d2
    go_simp
    try (with_reducible rfl)
  try go_frame
  refine wpAnyH_take (i := 14) (oi := { dst := some 23, op := Op.fieldAddr 50 (Operand.tmp 22) 2, type := 0, pos := "resolver.go:824", after := #[{ on := 13, ground := Ground.data }], guard := none }) (v := ?_) rfl (by kernel_rfl) (by kernel_rfl) (by kernel_rfl) (fun _ _ _ h => h) (Or.inl ⟨by rfl, ?_⟩) (by assumption) ?_
  rotate_left
  · intro wq hSw
    obtain ⟨q1, q2, q3⟩ := hSw
    have b0 : wq.cell? ⟨w.heap.size, 0, none⟩ = some (.pointer (some ⟨R, 0, none⟩)) := by simp [World.cell?, q1]
    have b1 : wq.cell? ⟨w.heap.size, 1, none⟩ = some (.pointer none) := by simp [World.cell?, q1]
    have b2 : wq.cell? ⟨w.heap.size, 2, none⟩ = some (.pointer (some ⟨d, 0, none⟩)) := by simp [World.cell?, q1]
    have b3 : wq.cell? ⟨w.heap.size, 3, none⟩ = some (.int .u8 0) := by simp [World.cell?, q1]
    have s1 := (World.cell?_of_block q2 (a := ⟨R, 1, none⟩)).trans r1
    have s2 := (World.cell?_of_block q2 (a := ⟨R, 2, none⟩)).trans r2
    have s3 := (World.cell?_of_block q2 (a := ⟨R, 3, none⟩)).trans r3
    have s4 := (World.cell?_of_block q2 (a := ⟨R, 4, none⟩)).trans r4
    have s5 := (World.cell?_of_block q2 (a := ⟨R, 5, none⟩)).trans r5
    have s6 := (World.cell?_of_block q2 (a := ⟨R, 6, none⟩)).trans r6
    have t0 := (World.cell?_of_block q3 (a := ⟨d, 0, none⟩)).trans d0
    have t2 := (World.cell?_of_block q3 (a := ⟨d, 2, none⟩)).trans d2
    go_simp
    try (with_reducible rfl)
  try go_frame
  refine wpAnyH_take (i := 15) (oi := { dst := some 24, op := Op.load 42 (Operand.tmp 23), type := 42, pos := "resolver.go:824", after := #[{ on := 14, ground := Ground.data }], guard := none }) (v := ?_) rfl (by kernel_rfl) (by kernel_rfl) (by kernel_rfl) (fun _ _ _ h => h) (Or.inl ⟨by rfl, ?_⟩) (by assumption) ?_
  rotate_left
  · intro wq hSw
    obtain ⟨q1, q2, q3⟩ := hSw
    have b0 : wq.cell? ⟨w.heap.size, 0, none⟩ = some (.pointer (some ⟨R, 0, none⟩)) := by simp [World.cell?, q1]
    have b1 : wq.cell? ⟨w.heap.size, 1, none⟩ = some (.pointer none) := by simp [World.cell?, q1]
    have b2 : wq.cell? ⟨w.heap.size, 2, none⟩ = some (.pointer (some ⟨d, 0, none⟩)) := by simp [World.cell?, q1]
    have b3 : wq.cell? ⟨w.heap.size, 3, none⟩ = some (.int .u8 0) := by simp [World.cell?, q1]
    have s1 := (World.cell?_of_block q2 (a := ⟨R, 1, none⟩)).trans r1
    have s2 := (World.cell?_of_block q2 (a := ⟨R, 2, none⟩)).trans r2
    have s3 := (World.cell?_of_block q2 (a := ⟨R, 3, none⟩)).trans r3
    have s4 := (World.cell?_of_block q2 (a := ⟨R, 4, none⟩)).trans r4
    have s5 := (World.cell?_of_block q2 (a := ⟨R, 5, none⟩)).trans r5
    have s6 := (World.cell?_of_block q2 (a := ⟨R, 6, none⟩)).trans r6
    have t0 := (World.cell?_of_block q3 (a := ⟨d, 0, none⟩)).trans d0
    have t2 := (World.cell?_of_block q3 (a := ⟨d, 2, none⟩)).trans d2
    go_simp
    try (with_reducible rfl)
  try go_frame
  refine wpAnyH_ready (rs := [16]) (by kernel_rfl) (by simp) ?_
  refine AllReadyH.cons rfl (fun K' hK => ?_) AllReadyH.nil
  go_simp
  have C := id25_4 K M E S lvl false base (.slice none 0 0) [] what A n c _ ((hL.alloc (.cells #[.pointer (some ⟨R, 0, none⟩), .pointer none, .pointer (some ⟨d, 0, none⟩), .int .u8 0] 34)).drew) (by show 0 < _; omega)
  unfold logv ptr at C
  refine C.mono ?_
  rintro e w8 ⟨rfl, hg, far, bel⟩
  go_simp
  have far' : ∀ q, q ≠ M → q ≠ S → q ≠ E → q < w.heap.size + 1 → w8.heap[q]? = (w.alloc (.cells #[.pointer (some ⟨R, 0, none⟩), .pointer none, .pointer (some ⟨d, 0, none⟩), .int .u8 0] 34)).heap[q]? := fun q h1 h2 h3 h4 => far q h1 h2 h3 (fun e => (by cases e)) (by show q < (w.alloc _).heap.size; rw [World.size_alloc]; omega)
  have m1 := hL.mb; have m2 := hL.sb; have m3 := hL.eb'; have m4 := hL.bs
  have x1 := (far' w.heap.size (by omega) (by omega) (by omega) (by omega)).trans (heap_alloc_new w _)
  have x2 := (far' R (by omega) (by omega) (by omega) (by omega)).trans (blk_alloc_lt w _ R hRl)
  have x3 := (far' d hne.1 hne.2.1 hne.2.2 (by omega)).trans (blk_alloc_lt w _ d hdl)
  have FAR : Hid (∀ q, q ≠ M → q ≠ S → q ≠ E → q < w.heap.size → w8.heap[q]? = w.heap[q]?) := Lib.hid fun q h1 h2 h3 h4 => (far' q h1 h2 h3 (by omega)).trans (blk_alloc_lt w _ q h4)
  have BEL : Hid (∀ B, B ≤ M → B ≤ S → B ≤ E → B ≤ base → Below B w w8) := Lib.hid fun B h1 h2 h3 h4 => (((Below.refl B w).alloc (by omega) _).drew).trans (bel B h1 h2 h3 h4)
  have HG : Hid (∃ v', Lg w8 K M E S 0 false base v' [⟨A, n, c, { data := #[] }, what, false, 4, 0⟩]) := Lib.hid (by obtain ⟨v', g1, _⟩ := hg; exact ⟨v', g1⟩)
  refine hK.out _ _ ⟨x1, x2, x3⟩ (fun hHeld => ?_)
  clear hK K' far far' bel hg x1 x2 x3
  try go_frame
  refine wpAnyH_done (by kernel_rfl) ?_ _
  go_wp2
  go_end0
  exact ⟨rfl, HG.out, FAR.out, BEL.out⟩
set_option maxRecDepth 20000 in
set_option maxHeartbeats 2000000 in
theorem flush5 (R K M E S d base : Nat) (lvl : Int) (what : ByteArray) (A : Option Addr) (n c : Nat) (w : World) (hl : lvl ≤ 1) (hR : Rs w R K M E S lvl) (hL : Lg w K M E S 0 false base (.slice none 0 0) []) (hD : w.rowIs d 50 3 (dl what { data := #[] } (.slice A n c))) (hbR : base ≤ R) (hne : d ≠ M ∧ d ≠ S ∧ d ≠ E) :
    Calls Tryz.prog 17 #[qv R (some ⟨d, 0, none⟩), .int .u8 1] w fun e w' => e = .returned (.tuple #[]) ∧ (∃ v', Lg w' K M E S 0 false base v' [⟨A, n, c, { data := #[] }, what, false, 5, 0⟩]) ∧ (∀ q, q ≠ M → q ≠ S → q ≠ E → q < w.heap.size → w'.heap[q]? = w.heap[q]?) ∧ ∀ B, B ≤ M → B ≤ S → B ≤ E → B ≤ base → Below B w w' := by
  obtain ⟨r1, r2, r3, r4, r5, r6⟩ := hR.cells
  have d0 := hD.cell (i := 0) (by omega)
  have d2 := hD.cell (i := 2) (by omega)
  simp only [dl] at d0 d2
  have hRl := hR.lt
  have hdl := hD.lt
  clear hR hD
  unfold qv
  go_enter Tryz.func17, Tryz.ntmps17
  go_wp2_with (fail)
  have GB := Lib.hid (by have := hL.bs; exact this : base ≤ w.heap.size)
  refine wp_region_held_drew (S := fun w' => w'.heap[w.heap.size]? = some (.cells #[.pointer (some ⟨R, 0, none⟩), .pointer none, .pointer (some ⟨d, 0, none⟩), .int .u8 0] 34 (0, 0)) ∧ w'.heap[R]? = w.heap[R]? ∧ w'.heap[d]? = w.heap[d]?) (by kernel_rfl) ⟨heap_alloc_new w _, blk_alloc_lt w _ R hRl, blk_alloc_lt w _ d hdl⟩ (fun hHeld => ?_)
  refine wpAnyH_take (i := 0) (oi := { dst := some 33, op := Op.fieldAddr 34 (Operand.tmp 2) 0, type := 0, pos := "resolver.go:826", after := #[], guard := none }) (v := ?_) rfl (by kernel_rfl) (by kernel_rfl) (by kernel_rfl) (fun _ _ _ h => h) (Or.inl ⟨by rfl, ?_⟩) (by assumption) ?_
  rotate_left
  · intro wq hSw
    obtain ⟨q1, q2, q3⟩ := hSw
    have b0 : wq.cell? ⟨w.heap.size, 0, none⟩ = some (.pointer (some ⟨R, 0, none⟩)) := by simp [World.cell?, q1]
    have b1 : wq.cell? ⟨w.heap.size, 1, none⟩ = some (.pointer none) := by simp [World.cell?, q1]
    have b2 : wq.cell? ⟨w.heap.size, 2, none⟩ = some (.pointer (some ⟨d, 0, none⟩)) := by simp [World.cell?, q1]
    have b3 : wq.cell? ⟨w.heap.size, 3, none⟩ = some (.int .u8 0) := by simp [World.cell?, q1]
    have s1 := (World.cell?_of_block q2 (a := ⟨R, 1, none⟩)).trans r1
    have s2 := (World.cell?_of_block q2 (a := ⟨R, 2, none⟩)).trans r2
    have s3 := (World.cell?_of_block q2 (a := ⟨R, 3, none⟩)).trans r3
    have s4 := (World.cell?_of_block q2 (a := ⟨R, 4, none⟩)).trans r4
    have s5 := (World.cell?_of_block q2 (a := ⟨R, 5, none⟩)).trans r5
    have s6 := (World.cell?_of_block q2 (a := ⟨R, 6, none⟩)).trans r6
    have t0 := (World.cell?_of_block q3 (a := ⟨d, 0, none⟩)).trans d0
    have t2 := (World.cell?_of_block q3 (a := ⟨d, 2, none⟩)).trans d2
    go_simp
    try (with_reducible rfl)
  try go_frame
  refine wpAnyH_take (i := 1) (oi := { dst := some 34, op := Op.load 29 (Operand.tmp 33), type := 29, pos := "resolver.go:826", after := #[{ on := 0, ground := Ground.data }], guard := none }) (v := ?_) rfl (by kernel_rfl) (by kernel_rfl) (by kernel_rfl) (fun _ _ _ h => h) (Or.inl ⟨by rfl, ?_⟩) (by assumption) ?_
  rotate_left
  · intro wq hSw
    obtain ⟨q1, q2, q3⟩ := hSw
    have b0 : wq.cell? ⟨w.heap.size, 0, none⟩ = some (.pointer (some ⟨R, 0, none⟩)) := by simp [World.cell?, q1]
    have b1 : wq.cell? ⟨w.heap.size, 1, none⟩ = some (.pointer none) := by simp [World.cell?, q1]
    have b2 : wq.cell? ⟨w.heap.size, 2, none⟩ = some (.pointer (some ⟨d, 0, none⟩)) := by simp [World.cell?, q1]
    have b3 : wq.cell? ⟨w.heap.size, 3, none⟩ = some (.int .u8 0) := by simp [World.cell?, q1]
    have s1 := (World.cell?_of_block q2 (a := ⟨R, 1, none⟩)).trans r1
    have s2 := (World.cell?_of_block q2 (a := ⟨R, 2, none⟩)).trans r2
    have s3 := (World.cell?_of_block q2 (a := ⟨R, 3, none⟩)).trans r3
    have s4 := (World.cell?_of_block q2 (a := ⟨R, 4, none⟩)).trans r4
    have s5 := (World.cell?_of_block q2 (a := ⟨R, 5, none⟩)).trans r5
    have s6 := (World.cell?_of_block q2 (a := ⟨R, 6, none⟩)).trans r6
    have t0 := (World.cell?_of_block q3 (a := ⟨d, 0, none⟩)).trans d0
    have t2 := (World.cell?_of_block q3 (a := ⟨d, 2, none⟩)).trans d2
    go_simp
    try (with_reducible rfl)
  try go_frame
  refine wpAnyH_take (i := 2) (oi := { dst := some 35, op := Op.nilCheck (Operand.tmp 34), type := 0, pos := "resolver.go:826", after := #[{ on := 1, ground := Ground.data }], guard := none }) (v := ?_) rfl (by kernel_rfl) (by kernel_rfl) (by kernel_rfl) (fun _ _ _ h => h) (Or.inl ⟨by rfl, ?_⟩) (by assumption) ?_
  rotate_left
  · intro wq hSw
    obtain ⟨q1, q2, q3⟩ := hSw
    have b0 : wq.cell? ⟨w.heap.size, 0, none⟩ = some (.pointer (some ⟨R, 0, none⟩)) := by simp [World.cell?, q1]
    have b1 : wq.cell? ⟨w.heap.size, 1, none⟩ = some (.pointer none) := by simp [World.cell?, q1]
    have b2 : wq.cell? ⟨w.heap.size, 2, none⟩ = some (.pointer (some ⟨d, 0, none⟩)) := by simp [World.cell?, q1]
    have b3 : wq.cell? ⟨w.heap.size, 3, none⟩ = some (.int .u8 0) := by simp [World.cell?, q1]
    have s1 := (World.cell?_of_block q2 (a := ⟨R, 1, none⟩)).trans r1
    have s2 := (World.cell?_of_block q2 (a := ⟨R, 2, none⟩)).trans r2
    have s3 := (World.cell?_of_block q2 (a := ⟨R, 3, none⟩)).trans r3
    have s4 := (World.cell?_of_block q2 (a := ⟨R, 4, none⟩)).trans r4
    have s5 := (World.cell?_of_block q2 (a := ⟨R, 5, none⟩)).trans r5
    have s6 := (World.cell?_of_block q2 (a := ⟨R, 6, none⟩)).trans r6
    have t0 := (World.cell?_of_block q3 (a := ⟨d, 0, none⟩)).trans d0
    have t2 := (World.cell?_of_block q3 (a := ⟨d, 2, none⟩)).trans d2
    go_simp
    try (with_reducible rfl)
  try go_frame
  refine wpAnyH_take (i := 3) (oi := { dst := some 36, op := Op.fieldAddr 129 (Operand.tmp 35) 1, type := 0, pos := "resolver.go:826", after := #[{ on := 2, ground := Ground.data }], guard := none }) (v := ?_) rfl (by kernel_rfl) (by kernel_rfl) (by kernel_rfl) (fun _ _ _ h => h) (Or.inl ⟨by rfl, ?_⟩) (by assumption) ?_
  rotate_left
  · intro wq hSw
    obtain ⟨q1, q2, q3⟩ := hSw
    have b0 : wq.cell? ⟨w.heap.size, 0, none⟩ = some (.pointer (some ⟨R, 0, none⟩)) := by simp [World.cell?, q1]
    have b1 : wq.cell? ⟨w.heap.size, 1, none⟩ = some (.pointer none) := by simp [World.cell?, q1]
    have b2 : wq.cell? ⟨w.heap.size, 2, none⟩ = some (.pointer (some ⟨d, 0, none⟩)) := by simp [World.cell?, q1]
    have b3 : wq.cell? ⟨w.heap.size, 3, none⟩ = some (.int .u8 0) := by simp [World.cell?, q1]
    have s1 := (World.cell?_of_block q2 (a := ⟨R, 1, none⟩)).trans r1
    have s2 := (World.cell?_of_block q2 (a := ⟨R, 2, none⟩)).trans r2
    have s3 := (World.cell?_of_block q2 (a := ⟨R, 3, none⟩)).trans r3
    have s4 := (World.cell?_of_block q2 (a := ⟨R, 4, none⟩)).trans r4
    have s5 := (World.cell?_of_block q2 (a := ⟨R, 5, none⟩)).trans r5
    have s6 := (World.cell?_of_block q2 (a := ⟨R, 6, none⟩)).trans r6
    have t0 := (World.cell?_of_block q3 (a := ⟨d, 0, none⟩)).trans d0
    have t2 := (World.cell?_of_block q3 (a := ⟨d, 2, none⟩)).trans d2
    go_simp
    try (with_reducible rfl)
  try go_frame
  refine wpAnyH_take (i := 4) (oi := { dst := some 37, op := Op.load 57 (Operand.tmp 36), type := 57, pos := "resolver.go:826", after := #[{ on := 3, ground := Ground.data }], guard := none }) (v := ?_) rfl (by kernel_rfl) (by kernel_rfl) (by kernel_rfl) (fun _ _ _ h => h) (Or.inl ⟨by rfl, ?_⟩) (by assumption) ?_
  rotate_left
  · intro wq hSw
    obtain ⟨q1, q2, q3⟩ := hSw
    have b0 : wq.cell? ⟨w.heap.size, 0, none⟩ = some (.pointer (some ⟨R, 0, none⟩)) := by simp [World.cell?, q1]
    have b1 : wq.cell? ⟨w.heap.size, 1, none⟩ = some (.pointer none) := by simp [World.cell?, q1]
    have b2 : wq.cell? ⟨w.heap.size, 2, none⟩ = some (.pointer (some ⟨d, 0, none⟩)) := by simp [World.cell?, q1]
    have b3 : wq.cell? ⟨w.heap.size, 3, none⟩ = some (.int .u8 0) := by simp [World.cell?, q1]
    have s1 := (World.cell?_of_block q2 (a := ⟨R, 1, none⟩)).trans r1
    have s2 := (World.cell?_of_block q2 (a := ⟨R, 2, none⟩)).trans r2
    have s3 := (World.cell?_of_block q2 (a := ⟨R, 3, none⟩)).trans r3
    have s4 := (World.cell?_of_block q2 (a := ⟨R, 4, none⟩)).trans r4
    have s5 := (World.cell?_of_block q2 (a := ⟨R, 5, none⟩)).trans r5
    have s6 := (World.cell?_of_block q2 (a := ⟨R, 6, none⟩)).trans r6
    have t0 := (World.cell?_of_block q3 (a := ⟨d, 0, none⟩)).trans d0
    have t2 := (World.cell?_of_block q3 (a := ⟨d, 2, none⟩)).trans d2
    go_simp
    try (with_reducible rfl)
  try go_frame
  refine wpAnyH_take (i := 5) (oi := { dst := some 38, op := Op.build 71 #[], type := 71, pos := "resolver.go:826", after := #[], guard := none }) (v := ?_) rfl (by kernel_rfl) (by kernel_rfl) (by kernel_rfl) (fun _ _ _ h => h) (Or.inl ⟨by rfl, ?_⟩) (by assumption) ?_
  rotate_left
  · intro wq hSw
    obtain ⟨q1, q2, q3⟩ := hSw
    have b0 : wq.cell? ⟨w.heap.size, 0, none⟩ = some (.pointer (some ⟨R, 0, none⟩)) := by simp [World.cell?, q1]
    have b1 : wq.cell? ⟨w.heap.size, 1, none⟩ = some (.pointer none) := by simp [World.cell?, q1]
    have b2 : wq.cell? ⟨w.heap.size, 2, none⟩ = some (.pointer (some ⟨d, 0, none⟩)) := by simp [World.cell?, q1]
    have b3 : wq.cell? ⟨w.heap.size, 3, none⟩ = some (.int .u8 0) := by simp [World.cell?, q1]
    have s1 := (World.cell?_of_block q2 (a := ⟨R, 1, none⟩)).trans r1
    have s2 := (World.cell?_of_block q2 (a := ⟨R, 2, none⟩)).trans r2
    have s3 := (World.cell?_of_block q2 (a := ⟨R, 3, none⟩)).trans r3
    have s4 := (World.cell?_of_block q2 (a := ⟨R, 4, none⟩)).trans r4
    have s5 := (World.cell?_of_block q2 (a := ⟨R, 5, none⟩)).trans r5
    have s6 := (World.cell?_of_block q2 (a := ⟨R, 6, none⟩)).trans r6
    have t0 := (World.cell?_of_block q3 (a := ⟨d, 0, none⟩)).trans d0
    have t2 := (World.cell?_of_block q3 (a := ⟨d, 2, none⟩)).trans d2
    go_simp
    try (with_reducible rfl)
  try go_frame
  refine wpAnyH_take (i := 6) (oi := { dst := some 39, op := Op.fieldAddr 34 (Operand.tmp 2) 2, type := 0, pos := "resolver.go:826", after := #[], guard := none }) (v := ?_) rfl (by kernel_rfl) (by kernel_rfl) (by kernel_rfl) (fun _ _ _ h => h) (Or.inl ⟨by rfl, ?_⟩) (by assumption) ?_
  rotate_left
  · intro wq hSw
    obtain ⟨q1, q2, q3⟩ := hSw
    have b0 : wq.cell? ⟨w.heap.size, 0, none⟩ = some (.pointer (some ⟨R, 0, none⟩)) := by simp [World.cell?, q1]
    have b1 : wq.cell? ⟨w.heap.size, 1, none⟩ = some (.pointer none) := by simp [World.cell?, q1]
    have b2 : wq.cell? ⟨w.heap.size, 2, none⟩ = some (.pointer (some ⟨d, 0, none⟩)) := by simp [World.cell?, q1]
    have b3 : wq.cell? ⟨w.heap.size, 3, none⟩ = some (.int .u8 0) := by simp [World.cell?, q1]
    have s1 := (World.cell?_of_block q2 (a := ⟨R, 1, none⟩)).trans r1
    have s2 := (World.cell?_of_block q2 (a := ⟨R, 2, none⟩)).trans r2
    have s3 := (World.cell?_of_block q2 (a := ⟨R, 3, none⟩)).trans r3
    have s4 := (World.cell?_of_block q2 (a := ⟨R, 4, none⟩)).trans r4
    have s5 := (World.cell?_of_block q2 (a := ⟨R, 5, none⟩)).trans r5
    have s6 := (World.cell?_of_block q2 (a := ⟨R, 6, none⟩)).trans r6
    have t0 := (World.cell?_of_block q3 (a := ⟨d, 0, none⟩)).trans d0
    have t2 := (World.cell?_of_block q3 (a := ⟨d, 2, none⟩)).trans d2
    go_simp
    try (with_reducible rfl)
  try go_frame
  refine wpAnyH_take (i := 7) (oi := { dst := some 40, op := Op.load 31 (Operand.tmp 39), type := 31, pos := "resolver.go:826", after := #[{ on := 6, ground := Ground.data }], guard := none }) (v := ?_) rfl (by kernel_rfl) (by kernel_rfl) (by kernel_rfl) (fun _ _ _ h => h) (Or.inl ⟨by rfl, ?_⟩) (by assumption) ?_
  rotate_left
  · intro wq hSw
    obtain ⟨q1, q2, q3⟩ := hSw
    have b0 : wq.cell? ⟨w.heap.size, 0, none⟩ = some (.pointer (some ⟨R, 0, none⟩)) := by simp [World.cell?, q1]
    have b1 : wq.cell? ⟨w.heap.size, 1, none⟩ = some (.pointer none) := by simp [World.cell?, q1]
    have b2 : wq.cell? ⟨w.heap.size, 2, none⟩ = some (.pointer (some ⟨d, 0, none⟩)) := by simp [World.cell?, q1]
    have b3 : wq.cell? ⟨w.heap.size, 3, none⟩ = some (.int .u8 0) := by simp [World.cell?, q1]
    have s1 := (World.cell?_of_block q2 (a := ⟨R, 1, none⟩)).trans r1
    have s2 := (World.cell?_of_block q2 (a := ⟨R, 2, none⟩)).trans r2
    have s3 := (World.cell?_of_block q2 (a := ⟨R, 3, none⟩)).trans r3
    have s4 := (World.cell?_of_block q2 (a := ⟨R, 4, none⟩)).trans r4
    have s5 := (World.cell?_of_block q2 (a := ⟨R, 5, none⟩)).trans r5
    have s6 := (World.cell?_of_block q2 (a := ⟨R, 6, none⟩)).trans r6
    have t0 := (World.cell?_of_block q3 (a := ⟨d, 0, none⟩)).trans d0
    have t2 := (World.cell?_of_block q3 (a := ⟨d, 2, none⟩)).trans d2
    go_simp
    try (with_reducible rfl)
  try go_frame
  refine wpAnyH_take (i := 8) (oi := { dst := some 41, op := Op.nilCheck (Operand.tmp 40), type := 0, pos := "resolver.go:826", after := #[{ on := 7, ground := Ground.data }], guard := none }) (v := ?_) rfl (by kernel_rfl) (by kernel_rfl) (by kernel_rfl) (fun _ _ _ h => h) (Or.inl ⟨by rfl, ?_⟩) (by assumption) ?_
  rotate_left
  · intro wq hSw
    obtain ⟨q1, q2, q3⟩ := hSw
    have b0 : wq.cell? ⟨w.heap.size, 0, none⟩ = some (.pointer (some ⟨R, 0, none⟩)) := by simp [World.cell?, q1]
    have b1 : wq.cell? ⟨w.heap.size, 1, none⟩ = some (.pointer none) := by simp [World.cell?, q1]
    have b2 : wq.cell? ⟨w.heap.size, 2, none⟩ = some (.pointer (some ⟨d, 0, none⟩)) := by simp [World.cell?, q1]
    have b3 : wq.cell? ⟨w.heap.size, 3, none⟩ = some (.int .u8 0) := by simp [World.cell?, q1]
    have s1 := (World.cell?_of_block q2 (a := ⟨R, 1, none⟩)).trans r1
    have s2 := (World.cell?_of_block q2 (a := ⟨R, 2, none⟩)).trans r2
    have s3 := (World.cell?_of_block q2 (a := ⟨R, 3, none⟩)).trans r3
    have s4 := (World.cell?_of_block q2 (a := ⟨R, 4, none⟩)).trans r4
    have s5 := (World.cell?_of_block q2 (a := ⟨R, 5, none⟩)).trans r5
    have s6 := (World.cell?_of_block q2 (a := ⟨R, 6, none⟩)).trans r6
    have t0 := (World.cell?_of_block q3 (a := ⟨d, 0, none⟩)).trans d0
    have t2 := (World.cell?_of_block q3 (a := ⟨d, 2, none⟩)).trans d2
    go_simp
    try (with_reducible rfl)
  try go_frame
  refine wpAnyH_take (i := 9) (oi := { dst := some 42, op := Op.fieldAddr 50 (Operand.tmp 41) 0, type := 0, pos := "resolver.go:826", after := #[{ on := 8, ground := Ground.data }], guard := none }) (v := ?_) rfl (by kernel_rfl) (by kernel_rfl) (by kernel_rfl) (fun _ _ _ h => h) (Or.inl ⟨by rfl, ?_⟩) (by assumption) ?_
  rotate_left
  · intro wq hSw
    obtain ⟨q1, q2, q3⟩ := hSw
    have b0 : wq.cell? ⟨w.heap.size, 0, none⟩ = some (.pointer (some ⟨R, 0, none⟩)) := by simp [World.cell?, q1]
    have b1 : wq.cell? ⟨w.heap.size, 1, none⟩ = some (.pointer none) := by simp [World.cell?, q1]
    have b2 : wq.cell? ⟨w.heap.size, 2, none⟩ = some (.pointer (some ⟨d, 0, none⟩)) := by simp [World.cell?, q1]
    have b3 : wq.cell? ⟨w.heap.size, 3, none⟩ = some (.int .u8 0) := by simp [World.cell?, q1]
    have s1 := (World.cell?_of_block q2 (a := ⟨R, 1, none⟩)).trans r1
    have s2 := (World.cell?_of_block q2 (a := ⟨R, 2, none⟩)).trans r2
    have s3 := (World.cell?_of_block q2 (a := ⟨R, 3, none⟩)).trans r3
    have s4 := (World.cell?_of_block q2 (a := ⟨R, 4, none⟩)).trans r4
    have s5 := (World.cell?_of_block q2 (a := ⟨R, 5, none⟩)).trans r5
    have s6 := (World.cell?_of_block q2 (a := ⟨R, 6, none⟩)).trans r6
    have t0 := (World.cell?_of_block q3 (a := ⟨d, 0, none⟩)).trans d0
    have t2 := (World.cell?_of_block q3 (a := ⟨d, 2, none⟩)).trans d2
    go_simp
    try (with_reducible rfl)
  try go_frame
  refine wpAnyH_take (i := 10) (oi := { dst := some 43, op := Op.load 9 (Operand.tmp 42), type := 9, pos := "resolver.go:826", after := #[{ on := 9, ground := Ground.data }], guard := none }) (v := ?_) rfl (by kernel_rfl) (by kernel_rfl) (by kernel_rfl) (fun _ _ _ h => h) (Or.inl ⟨by rfl, ?_⟩) (by assumption) ?_
  rotate_left
  · intro wq hSw
    obtain ⟨q1, q2, q3⟩ := hSw
    have b0 : wq.cell? ⟨w.heap.size, 0, none⟩ = some (.pointer (some ⟨R, 0, none⟩)) := by simp [World.cell?, q1]
    have b1 : wq.cell? ⟨w.heap.size, 1, none⟩ = some (.pointer none) := by simp [World.cell?, q1]
    have b2 : wq.cell? ⟨w.heap.size, 2, none⟩ = some (.pointer (some ⟨d, 0, none⟩)) := by simp [World.cell?, q1]
    have b3 : wq.cell? ⟨w.heap.size, 3, none⟩ = some (.int .u8 0) := by simp [World.cell?, q1]
    have s1 := (World.cell?_of_block q2 (a := ⟨R, 1, none⟩)).trans r1
    have s2 := (World.cell?_of_block q2 (a := ⟨R, 2, none⟩)).trans r2
    have s3 := (World.cell?_of_block q2 (a := ⟨R, 3, none⟩)).trans r3
    have s4 := (World.cell?_of_block q2 (a := ⟨R, 4, none⟩)).trans r4
    have s5 := (World.cell?_of_block q2 (a := ⟨R, 5, none⟩)).trans r5
    have s6 := (World.cell?_of_block q2 (a := ⟨R, 6, none⟩)).trans r6
    have t0 := (World.cell?_of_block q3 (a := ⟨d, 0, none⟩)).trans d0
    have t2 := (World.cell?_of_block q3 (a := ⟨d, 2, none⟩)).trans d2
    go_simp
    try (with_reducible rfl)
  try go_frame
  refine wpAnyH_take (i := 11) (oi := { dst := some 44, op := Op.fieldAddr 34 (Operand.tmp 2) 2, type := 0, pos := "resolver.go:826", after := #[], guard := none }) (v := ?_) rfl (by kernel_rfl) (by kernel_rfl) (by kernel_rfl) (fun _ _ _ h => h) (Or.inl ⟨by rfl, ?_⟩) (by assumption) ?_
  rotate_left
  · intro wq hSw
    obtain ⟨q1, q2, q3⟩ := hSw
    have b0 : wq.cell? ⟨w.heap.size, 0, none⟩ = some (.pointer (some ⟨R, 0, none⟩)) := by simp [World.cell?, q1]
    have b1 : wq.cell? ⟨w.heap.size, 1, none⟩ = some (.pointer none) := by simp [World.cell?, q1]
    have b2 : wq.cell? ⟨w.heap.size, 2, none⟩ = some (.pointer (some ⟨d, 0, none⟩)) := by simp [World.cell?, q1]
    have b3 : wq.cell? ⟨w.heap.size, 3, none⟩ = some (.int .u8 0) := by simp [World.cell?, q1]
    have s1 := (World.cell?_of_block q2 (a := ⟨R, 1, none⟩)).trans r1
    have s2 := (World.cell?_of_block q2 (a := ⟨R, 2, none⟩)).trans r2
    have s3 := (World.cell?_of_block q2 (a := ⟨R, 3, none⟩)).trans r3
    have s4 := (World.cell?_of_block q2 (a := ⟨R, 4, none⟩)).trans r4
    have s5 := (World.cell?_of_block q2 (a := ⟨R, 5, none⟩)).trans r5
    have s6 := (World.cell?_of_block q2 (a := ⟨R, 6, none⟩)).trans r6
    have t0 := (World.cell?_of_block q3 (a := ⟨d, 0, none⟩)).trans d0
    have t2 := (World.cell?_of_block q3 (a := ⟨d, 2, none⟩)).trans d2
    go_simp
    try (with_reducible rfl)
  try go_frame
  refine wpAnyH_take (i := 12) (oi := { dst := some 45, op := Op.load 31 (Operand.tmp 44), type := 31, pos := "resolver.go:826", after := #[{ on := 11, ground := Ground.data }], guard := none }) (v := ?_) rfl (by kernel_rfl) (by kernel_rfl) (by kernel_rfl) (fun _ _ _ h => h) (Or.inl ⟨by rfl, ?_⟩) (by assumption) ?_
  rotate_left
  · intro wq hSw
    obtain ⟨q1, q2, q3⟩ := hSw
    have b0 : wq.cell? ⟨w.heap.size, 0, none⟩ = some (.pointer (some ⟨R, 0, none⟩)) := by simp [World.cell?, q1]
    have b1 : wq.cell? ⟨w.heap.size, 1, none⟩ = some (.pointer none) := by simp [World.cell?, q1]
    have b2 : wq.cell? ⟨w.heap.size, 2, none⟩ = some (.pointer (some ⟨d, 0, none⟩)) := by simp [World.cell?, q1]
    have b3 : wq.cell? ⟨w.heap.size, 3, none⟩ = some (.int .u8 0) := by simp [World.cell?, q1]
    have s1 := (World.cell?_of_block q2 (a := ⟨R, 1, none⟩)).trans r1
    have s2 := (World.cell?_of_block q2 (a := ⟨R, 2, none⟩)).trans r2
    have s3 := (World.cell?_of_block q2 (a := ⟨R, 3, none⟩)).trans r3
    have s4 := (World.cell?_of_block q2 (a := ⟨R, 4, none⟩)).trans r4
    have s5 := (World.cell?_of_block q2 (a := ⟨R, 5, none⟩)).trans r5
    have s6 := (World.cell?_of_block q2 (a := ⟨R, 6, none⟩)).trans r6
    have t0 := (World.cell?_of_block q3 (a := ⟨d, 0, none⟩)).trans d0
    have t2 := (World.cell?_of_block q3 (a := ⟨d, 2, none⟩)).trans d2
    go_simp
    try (with_reducible rfl)
  try go_frame
  refine wpAnyH_take (i := 13) (oi := { dst := some 46, op := Op.nilCheck (Operand.tmp 45), type := 0, pos := "resolver.go:826", after := #[{ on := 12, ground := Ground.data }], guard := none }) (v := ?_) rfl (by kernel_rfl) (by kernel_rfl) (by kernel_rfl) (fun _ _ _ h => h) (Or.inl ⟨by rfl, ?_⟩) (by assumption) ?_
  rotate_left
  · intro wq hSw
    obtain ⟨q1, q2, q3⟩ := hSw
    have b0 : wq.cell? ⟨w.heap.size, 0, none⟩ = some (.pointer (some ⟨R, 0, none⟩)) := by simp [World.cell?, q1]
    have b1 : wq.cell? ⟨w.heap.size, 1, none⟩ = some (.pointer none) := by simp [World.cell?, q1]
    have b2 : wq.cell? ⟨w.heap.size, 2, none⟩ = some (.pointer (some ⟨d, 0, none⟩)) := by simp [World.cell?, q1]
    have b3 : wq.cell? ⟨w.heap.size, 3, none⟩ = some (.int .u8 0) := by simp [World.cell?, q1]
    have s1 := (World.cell?_of_block q2 (a := ⟨R, 1, none⟩)).trans r1
    have s2 := (World.cell?_of_block q2 (a := ⟨R, 2, none⟩)).trans r2
    have s3 := (World.cell?_of_block q2 (a := ⟨R, 3, none⟩)).trans r3
    have s4 := (World.cell?_of_block q2 (a := ⟨R, 4, none⟩)).trans r4
    have s5 := (World.cell?_of_block q2 (a := ⟨R, 5, none⟩)).trans r5
    have s6 := (World.cell?_of_block q2 (a := ⟨R, 6, none⟩)).trans r6
    have t0 := (World.cell?_of_block q3 (a := ⟨d, 0, none⟩)).trans d0
    have t2 := (World.cell?_of_block q3 (a := ⟨d, 2, none⟩)).trans d2
    go_simp
    try (with_reducible rfl)
  try go_frame
  refine wpAnyH_take (i := 14) (oi := { dst := some 47, op := Op.fieldAddr 50 (Operand.tmp 46) 2, type := 0, pos := "resolver.go:826", after := #[{ on := 13, ground := Ground.data }], guard := none }) (v := ?_) rfl (by kernel_rfl) (by kernel_rfl) (by kernel_rfl) (fun _ _ _ h => h) (Or.inl ⟨by rfl, ?_⟩) (by assumption) ?_
  rotate_left
  · intro wq hSw
    obtain ⟨q1, q2, q3⟩ := hSw
    have b0 : wq.cell? ⟨w.heap.size, 0, none⟩ = some (.pointer (some ⟨R, 0, none⟩)) := by simp [World.cell?, q1]
    have b1 : wq.cell? ⟨w.heap.size, 1, none⟩ = some (.pointer none) := by simp [World.cell?, q1]
    have b2 : wq.cell? ⟨w.heap.size, 2, none⟩ = some (.pointer (some ⟨d, 0, none⟩)) := by simp [World.cell?, q1]
    have b3 : wq.cell? ⟨w.heap.size, 3, none⟩ = some (.int .u8 0) := by simp [World.cell?, q1]
    have s1 := (World.cell?_of_block q2 (a := ⟨R, 1, none⟩)).trans r1
    have s2 := (World.cell?_of_block q2 (a := ⟨R, 2, none⟩)).trans r2
    have s3 := (World.cell?_of_block q2 (a := ⟨R, 3, none⟩)).trans r3
    have s4 := (World.cell?_of_block q2 (a := ⟨R, 4, none⟩)).trans r4
    have s5 := (World.cell?_of_block q2 (a := ⟨R, 5, none⟩)).trans r5
    have s6 := (World.cell?_of_block q2 (a := ⟨R, 6, none⟩)).trans r6
    have t0 := (World.cell?_of_block q3 (a := ⟨d, 0, none⟩)).trans d0
    have t2 := (World.cell?_of_block q3 (a := ⟨d, 2, none⟩)).trans d2
    go_simp
    try (with_reducible rfl)
  try go_frame
  refine wpAnyH_take (i := 15) (oi := { dst := some 48, op := Op.load 42 (Operand.tmp 47), type := 42, pos := "resolver.go:826", after := #[{ on := 14, ground := Ground.data }], guard := none }) (v := ?_) rfl (by kernel_rfl) (by kernel_rfl) (by kernel_rfl) (fun _ _ _ h => h) (Or.inl ⟨by rfl, ?_⟩) (by assumption) ?_
  rotate_left
  · intro wq hSw
    obtain ⟨q1, q2, q3⟩ := hSw
    have b0 : wq.cell? ⟨w.heap.size, 0, none⟩ = some (.pointer (some ⟨R, 0, none⟩)) := by simp [World.cell?, q1]
    have b1 : wq.cell? ⟨w.heap.size, 1, none⟩ = some (.pointer none) := by simp [World.cell?, q1]
    have b2 : wq.cell? ⟨w.heap.size, 2, none⟩ = some (.pointer (some ⟨d, 0, none⟩)) := by simp [World.cell?, q1]
    have b3 : wq.cell? ⟨w.heap.size, 3, none⟩ = some (.int .u8 0) := by simp [World.cell?, q1]
    have s1 := (World.cell?_of_block q2 (a := ⟨R, 1, none⟩)).trans r1
    have s2 := (World.cell?_of_block q2 (a := ⟨R, 2, none⟩)).trans r2
    have s3 := (World.cell?_of_block q2 (a := ⟨R, 3, none⟩)).trans r3
    have s4 := (World.cell?_of_block q2 (a := ⟨R, 4, none⟩)).trans r4
    have s5 := (World.cell?_of_block q2 (a := ⟨R, 5, none⟩)).trans r5
    have s6 := (World.cell?_of_block q2 (a := ⟨R, 6, none⟩)).trans r6
    have t0 := (World.cell?_of_block q3 (a := ⟨d, 0, none⟩)).trans d0
    have t2 := (World.cell?_of_block q3 (a := ⟨d, 2, none⟩)).trans d2
    go_simp
    try (with_reducible rfl)
  try go_frame
  refine wpAnyH_ready (rs := [16]) (by kernel_rfl) (by simp) ?_
  refine AllReadyH.cons rfl (fun K' hK => ?_) AllReadyH.nil
  go_simp
  have C := id25_5 K M E S lvl false base (.slice none 0 0) [] what A n c _ ((hL.alloc (.cells #[.pointer (some ⟨R, 0, none⟩), .pointer none, .pointer (some ⟨d, 0, none⟩), .int .u8 0] 34)).drew) (by show 0 < _; omega)
  unfold logv ptr at C
  refine C.mono ?_
  rintro e w8 ⟨rfl, hg, far, bel⟩
  go_simp
  have far' : ∀ q, q ≠ M → q ≠ S → q ≠ E → q < w.heap.size + 1 → w8.heap[q]? = (w.alloc (.cells #[.pointer (some ⟨R, 0, none⟩), .pointer none, .pointer (some ⟨d, 0, none⟩), .int .u8 0] 34)).heap[q]? := fun q h1 h2 h3 h4 => far q h1 h2 h3 (fun e => (by cases e)) (by show q < (w.alloc _).heap.size; rw [World.size_alloc]; omega)
  have m1 := hL.mb; have m2 := hL.sb; have m3 := hL.eb'; have m4 := hL.bs
  have x1 := (far' w.heap.size (by omega) (by omega) (by omega) (by omega)).trans (heap_alloc_new w _)
  have x2 := (far' R (by omega) (by omega) (by omega) (by omega)).trans (blk_alloc_lt w _ R hRl)
  have x3 := (far' d hne.1 hne.2.1 hne.2.2 (by omega)).trans (blk_alloc_lt w _ d hdl)
  have FAR : Hid (∀ q, q ≠ M → q ≠ S → q ≠ E → q < w.heap.size → w8.heap[q]? = w.heap[q]?) := Lib.hid fun q h1 h2 h3 h4 => (far' q h1 h2 h3 (by omega)).trans (blk_alloc_lt w _ q h4)
  have BEL : Hid (∀ B, B ≤ M → B ≤ S → B ≤ E → B ≤ base → Below B w w8) := Lib.hid fun B h1 h2 h3 h4 => (((Below.refl B w).alloc (by omega) _).drew).trans (bel B h1 h2 h3 h4)
  have HG : Hid (∃ v', Lg w8 K M E S 0 false base v' [⟨A, n, c, { data := #[] }, what, false, 5, 0⟩]) := Lib.hid (by obtain ⟨v', g1, _⟩ := hg; exact ⟨v', g1⟩)
  refine hK.out _ _ ⟨x1, x2, x3⟩ (fun hHeld => ?_)
  clear hK K' far far' bel hg x1 x2 x3
  try go_frame
  refine wpAnyH_done (by kernel_rfl) ?_ _
  go_wp2
  go_end0
  exact ⟨rfl, HG.out, FAR.out, BEL.out⟩
theorem flushQuiet (R K M E S d : Nat) (lvl : Int) (w : World) (hl : ¬ lvl ≤ 1) (hR : Rs w R K M E S lvl) : Calls Tryz.prog 17 #[qv R (some ⟨d, 0, none⟩), .int .u8 1] w fun e w' => e = .returned (.tuple #[]) ∧ Below w.heap.size w w' := by
  obtain ⟨r1, r2, r3, r4, r5, r6⟩ := hR.cells
  have hRl := hR.lt
  clear hR
  unfold qv
  go_enter Tryz.func17, Tryz.ntmps17
  go_wp2
  go_end0
  exact ⟨rfl, (Below.refl _ _).alloc (Nat.le_refl _) _⟩
theorem zz11 (R : Nat) (pd : Option Addr) (w : World) (Q : World → Prop) (h : Calls Tryz.prog 17 #[qv R pd, .int .u8 1] (w.alloc (.cells #[.pointer (some ⟨R, 0, none⟩), .pointer none, .pointer pd, .int .u8 0] 34)) fun e w' => e = .returned (.tuple #[]) ∧ Q w') : Calls Tryz.prog 11 #[qv R pd] w fun e w' => e = .returned (.tuple #[]) ∧ Q w' := by
  unfold qv at h ⊢
  have H := Lib.hid h
  clear h
  go_enter Tryz.func11, Tryz.ntmps11
  go_wp2_with (fail)
  refine H.out.mono ?_
  rintro e w2 ⟨rfl, h2⟩
  go_wp2
  go_end0
  exact ⟨rfl, h2⟩
theorem zz12 (R : Nat) (pd : Option Addr) (w : World) (Q : World → Prop) (h : Calls Tryz.prog 17 #[qv R pd, .int .u8 0] (w.alloc (.cells #[.pointer (some ⟨R, 0, none⟩), .pointer none, .pointer pd, .int .u8 0] 34)) fun e w' => e = .returned (.tuple #[]) ∧ Q w') : Calls Tryz.prog 12 #[qv R pd] w fun e w' => e = .returned (.tuple #[]) ∧ Q w' := by
  unfold qv at h ⊢
  have H := Lib.hid h
  clear h
  go_enter Tryz.func12, Tryz.ntmps12
  go_wp2_with (fail)
  refine H.out.mono ?_
  rintro e w2 ⟨rfl, h2⟩
  go_wp2
  go_end0
  exact ⟨rfl, h2⟩
theorem logged13 (R K M E S base : Nat) (lvl : Int) (pd : Option Addr) (v : Value) (ms : List Ms) (w : World) (hR : Rs w R K M E S lvl) (hL : Lg w K M E S 0 false base v ms) (hm : ms.length ≤ 4194304) :
    Calls Tryz.prog 13 #[qv R pd] w fun e w' => e = .returned v ∧ Lg w' K M E S 0 false base v ms ∧ (∀ q, q ≠ M → q < w.heap.size → w'.heap[q]? = w.heap[q]?) ∧ ∀ B, B ≤ M → B ≤ w.heap.size → Below B w w' := by
  obtain ⟨r1, r2, r3, r4, r5, r6⟩ := hR.cells
  have hRl := hR.lt
  have DN := Lib.hid (doneF K M E S 0 false base v ms _ (hL.alloc (.cells #[.pointer (some ⟨R, 0, none⟩), .pointer none, .pointer pd, .int .u8 0] 34)) hm)
  clear hR hL
  unfold qv
  unfold ptr at DN
  go_enter Tryz.func13, Tryz.ntmps13
  go_wp2_with (fail)
  refine DN.out.mono ?_
  rintro e w2 ⟨rfl, hl2, far, bel⟩
  go_wp2
  go_ret
  refine ⟨rfl, hl2, fun q h1 h2 => (far q h1 (by simp; omega)).trans (blk_alloc_lt w _ q h2), fun B h1 h2 => ((Below.refl B w).alloc h2 _).trans (bel B h1 (by simp; omega))⟩
end Go.Proofs.YtlmkgghfnfhojaaGreatDoor.Fdd
