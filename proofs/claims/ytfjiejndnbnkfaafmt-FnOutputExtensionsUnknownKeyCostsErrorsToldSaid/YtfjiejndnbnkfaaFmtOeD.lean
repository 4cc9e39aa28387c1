/- ZZvalidateOutputExtensions by its contract; zzBytesOf, zzMinLen, zzBytes. Conditions: lengths. -/
import Derived.Test.YtfjiejndnbnkfaaFmtOeC
namespace Go.Proofs.YtfjiejndnbnkfaaFmt.OeD
open Go.RowKit Go.Deep Go.Maps Go.ChangeMaps Go.MapKept Go.Proofs.YtfjiejndnbnkfaaFmt.Base Go.Proofs.YtfjiejndnbnkfaaFmt.Sls Go.Proofs.YtfjiejndnbnkfaaFmt.Mps Go.Proofs.YtfjiejndnbnkfaaFmt.Wsum Go.Proofs.YtfjiejndnbnkfaaFmt.Lk Go.Proofs.YtfjiejndnbnkfaaFmt.Lm Go.Proofs.YtfjiejndnbnkfaaFmt.Ln Go.Proofs.YtfjiejndnbnkfaaFmt.OeA Go.Proofs.YtfjiejndnbnkfaaFmt.OeB Go.Proofs.YtfjiejndnbnkfaaFmt.OeC
set_option linter.unusedVariables false
def New (w : World) (e : Ending) (w' : World) : Prop := ∃ K M E S, e = .returned (logv K M E S 3) ∧ Below w.heap.size w w' ∧ Lg w' K M E S 1 false w'.heap.size (.slice none 0 0) [] ∧ w.heap.size ≤ K ∧ w.heap.size ≤ M ∧ w.heap.size ≤ E ∧ w.heap.size ≤ S
theorem newE (w : World) : Calls Tryf.prog 11 #[.int .u8 1, .map none] w (New w) := by
  refine (newLog 1 w).mono ?_
  rintro e w2 ⟨rfl, hb, hl⟩
  exact ⟨_, _, _, _, rfl, hb, hl, by omega, by omega, by omega, by omega⟩
set_option maxRecDepth 20000 in
theorem new9 (w : World) : Calls Tryf.prog 9 #[] w (New w) := by
  have NL := Lib.hid (newE (w.alloc (.cells #[.nilFunc, .nilFunc, .nilFunc, .nilFunc, .int .i8 0, .map none] 37)))
  have hsf := run_store_func
  go_enter Tryf.func9, Tryf.ntmps9
  go_wp2_with (fail)
  refine NL.out.mono ?_
  rintro e w2 ⟨K, M, E, S, rfl, hb2, hl2, kK, kM, kE, kS⟩
  rw [World.size_alloc] at kK kM kE kS
  have HB2 := Lib.hid hb2; have HL2 := Lib.hid hl2
  have z2 := hb2.size
  rw [World.size_alloc] at z2
  have l2 : w2.heap[w.heap.size]? = some (.cells #[.nilFunc, .nilFunc, .nilFunc, .nilFunc, .int .i8 0, .map none] 37 (0, 0)) := (hb2.block _ (by simp)).trans (heap_alloc_new w _)
  have c0 : w2.cell? ⟨w.heap.size, 0, none⟩ = some (.nilFunc) := by simp [World.cell?, l2]
  have f0 : w2.frozen? ⟨w.heap.size, 0, none⟩ = false := by simp [World.frozen?, l2]
  have c1 : w2.cell? ⟨w.heap.size, 1, none⟩ = some (.nilFunc) := by simp [World.cell?, l2]
  have f1 : w2.frozen? ⟨w.heap.size, 1, none⟩ = false := by simp [World.frozen?, l2]
  have c2 : w2.cell? ⟨w.heap.size, 2, none⟩ = some (.nilFunc) := by simp [World.cell?, l2]
  have f2 : w2.frozen? ⟨w.heap.size, 2, none⟩ = false := by simp [World.frozen?, l2]
  have c3 : w2.cell? ⟨w.heap.size, 3, none⟩ = some (.nilFunc) := by simp [World.cell?, l2]
  have f3 : w2.frozen? ⟨w.heap.size, 3, none⟩ = false := by simp [World.frozen?, l2]
  have c4 : w2.cell? ⟨w.heap.size, 4, none⟩ = some (.int .i8 0) := by simp [World.cell?, l2]
  have f4 : w2.frozen? ⟨w.heap.size, 4, none⟩ = false := by simp [World.frozen?, l2]
  have c5 : w2.cell? ⟨w.heap.size, 5, none⟩ = some (.map none) := by simp [World.cell?, l2]
  have f5 : w2.frozen? ⟨w.heap.size, 5, none⟩ = false := by simp [World.frozen?, l2]
  clear hb2 hl2 l2
  unfold logv ptr
  go_wp2_with (fail)
  refine bodyPost_ret (v := .agg #[.func (Fn.func 15) #[] #[.pointer (some ⟨K, 0, none⟩), .pointer (some ⟨M, 0, none⟩), .pointer (some ⟨E, 0, none⟩), .pointer (some ⟨S, 0, none⟩)], .func (Fn.func 18) #[] #[.pointer (some ⟨M, 0, none⟩), .pointer (some ⟨E, 0, none⟩)], .func (Fn.func 19) #[] #[.pointer (some ⟨M, 0, none⟩), .pointer (some ⟨S, 0, none⟩)], .func (Fn.func 20) #[] #[.pointer (some ⟨M, 0, none⟩), .pointer (some ⟨S, 0, none⟩)], .int .i8 3, .map none]) (by simp [results, Tryf.results9, go_sem, *]) rfl ?_
  have far : ∀ (u0 u1 u2 u3 u4 u5 : Value) q, q ≠ w.heap.size → ((((((w2.setCell ⟨w.heap.size, 0, none⟩ u0).setCell ⟨w.heap.size, 1, none⟩ u1).setCell ⟨w.heap.size, 2, none⟩ u2).setCell ⟨w.heap.size, 3, none⟩ u3).setCell ⟨w.heap.size, 4, none⟩ u4).setCell ⟨w.heap.size, 5, none⟩ u5).heap[q]? = w2.heap[q]? := fun u0 u1 u2 u3 u4 u5 q hne => by
    repeat rw [blk_setCell_other _ _ _ _ (by exact hne)]
  have zz : ∀ (u0 u1 u2 u3 u4 u5 : Value), ((((((w2.setCell ⟨w.heap.size, 0, none⟩ u0).setCell ⟨w.heap.size, 1, none⟩ u1).setCell ⟨w.heap.size, 2, none⟩ u2).setCell ⟨w.heap.size, 3, none⟩ u3).setCell ⟨w.heap.size, 4, none⟩ u4).setCell ⟨w.heap.size, 5, none⟩ u5).heap.size = w2.heap.size := fun u0 u1 u2 u3 u4 u5 => by simp
  have bel : ∀ (u0 u1 u2 u3 u4 u5 : Value), Below w.heap.size w ((((((w2.setCell ⟨w.heap.size, 0, none⟩ u0).setCell ⟨w.heap.size, 1, none⟩ u1).setCell ⟨w.heap.size, 2, none⟩ u2).setCell ⟨w.heap.size, 3, none⟩ u3).setCell ⟨w.heap.size, 4, none⟩ u4).setCell ⟨w.heap.size, 5, none⟩ u5) := fun u0 u1 u2 u3 u4 u5 =>
    ((((((((Below.refl _ w).alloc (Nat.le_refl _) _).trans (HB2.out.mono (by simp))).setCell (Nat.le_refl _) _).setCell (Nat.le_refl _) _).setCell (Nat.le_refl _) _).setCell (Nat.le_refl _) _).setCell (Nat.le_refl _) _).setCell (Nat.le_refl _) _
  have lg : ∀ (u0 u1 u2 u3 u4 u5 : Value), Lg ((((((w2.setCell ⟨w.heap.size, 0, none⟩ u0).setCell ⟨w.heap.size, 1, none⟩ u1).setCell ⟨w.heap.size, 2, none⟩ u2).setCell ⟨w.heap.size, 3, none⟩ u3).setCell ⟨w.heap.size, 4, none⟩ u4).setCell ⟨w.heap.size, 5, none⟩ u5) K M E S 1 false ((((((w2.setCell ⟨w.heap.size, 0, none⟩ u0).setCell ⟨w.heap.size, 1, none⟩ u1).setCell ⟨w.heap.size, 2, none⟩ u2).setCell ⟨w.heap.size, 3, none⟩ u3).setCell ⟨w.heap.size, 4, none⟩ u4).setCell ⟨w.heap.size, 5, none⟩ u5).heap.size (.slice none 0 0) [] := fun u0 u1 u2 u3 u4 u5 => by
    rw [zz]
    exact HL2.out.kept (Nat.le_of_eq (zz u0 u1 u2 u3 u4 u5).symm) (fun q hq => far u0 u1 u2 u3 u4 u5 q (by rcases hq with rfl | rfl | rfl | rfl | hq <;> first | omega | cases hq))
  exact ⟨K, M, E, S, rfl, bel _ _ _ _ _ _, lg _ _ _ _ _ _, by omega, by omega, by omega, by omega⟩
set_option maxRecDepth 20000 in
set_option maxHeartbeats 2000000 in
theorem zz7 (b n : Nat) (D : DataW Value) (w : World) (hown : MD w b n D) (hG : OeA.Good D) (hmax : Maps.size D ≤ 4097) :
    Calls Tryf.prog 7 #[.map (some b)] w fun e w' => e = .returned (.tuple #[.string (gt D JS), .string (gt D CSS), .int .i64 ((wt er D : Nat) : Int)]) ∧ Below w.heap.size w w' := by
  have hbl := hown.lt
  have V7 := Lib.hid (fun K M E S lvl base b n w => val10 K M E S lvl base b n D w hG hmax)
  obtain ⟨k, hk⟩ : ∃ k : Nat, k = wt er D := ⟨_, rfl⟩
  have hk1 : k ≤ 8194 := by
    rw [hk]
    have := ws_le (f := er) (left := fun _ => true) (D := D) 2 er_le
    unfold wt; omega
  obtain ⟨sj, hsj⟩ : ∃ s, s = gt D JS := ⟨_, rfl⟩
  obtain ⟨sc, hsc⟩ : ∃ s, s = gt D CSS := ⟨_, rfl⟩
  unfold Post10 at V7
  rw [← hk, ← hsj, ← hsc] at V7 ⊢
  have HO := Lib.hid hown
  have NL := Lib.hid (new9 w)
  have hsf := run_store_func
  clear hk hown hG hmax hsj hsc
  go_enter Tryf.func7, Tryf.ntmps7
  go_wp2_with (fail)
  refine NL.out.mono ?_
  rintro e w2 ⟨K, M, E, S, rfl, hb2, hl2, kK, kM, kE, kS⟩
  have HB2 := Lib.hid hb2; have HL2 := Lib.hid hl2
  have zK := hl2.kb; have zM := hl2.mb; have zE := hl2.eb'; have zS := hl2.sb
  clear hb2 hl2
  unfold logv ptr
  go_upto_region 1 with (fail)
  have l3 : (w2.alloc (.cells #[.func (Fn.func 15) #[] #[.pointer (some ⟨K, 0, none⟩), .pointer (some ⟨M, 0, none⟩), .pointer (some ⟨E, 0, none⟩), .pointer (some ⟨S, 0, none⟩)], .func (Fn.func 18) #[] #[.pointer (some ⟨M, 0, none⟩), .pointer (some ⟨E, 0, none⟩)], .func (Fn.func 19) #[] #[.pointer (some ⟨M, 0, none⟩), .pointer (some ⟨S, 0, none⟩)], .func (Fn.func 20) #[] #[.pointer (some ⟨M, 0, none⟩), .pointer (some ⟨S, 0, none⟩)], .int .i8 3, .map none] 37)).heap[w2.heap.size]? = some (.cells #[.func (Fn.func 15) #[] #[.pointer (some ⟨K, 0, none⟩), .pointer (some ⟨M, 0, none⟩), .pointer (some ⟨E, 0, none⟩), .pointer (some ⟨S, 0, none⟩)], .func (Fn.func 18) #[] #[.pointer (some ⟨M, 0, none⟩), .pointer (some ⟨E, 0, none⟩)], .func (Fn.func 19) #[] #[.pointer (some ⟨M, 0, none⟩), .pointer (some ⟨S, 0, none⟩)], .func (Fn.func 20) #[] #[.pointer (some ⟨M, 0, none⟩), .pointer (some ⟨S, 0, none⟩)], .int .i8 3, .map none] 37 (0, 0)) := heap_alloc_new w2 _
  have O3 := Lib.hid (md_to (w' := w2.alloc (.cells #[.func (Fn.func 15) #[] #[.pointer (some ⟨K, 0, none⟩), .pointer (some ⟨M, 0, none⟩), .pointer (some ⟨E, 0, none⟩), .pointer (some ⟨S, 0, none⟩)], .func (Fn.func 18) #[] #[.pointer (some ⟨M, 0, none⟩), .pointer (some ⟨E, 0, none⟩)], .func (Fn.func 19) #[] #[.pointer (some ⟨M, 0, none⟩), .pointer (some ⟨S, 0, none⟩)], .func (Fn.func 20) #[] #[.pointer (some ⟨M, 0, none⟩), .pointer (some ⟨S, 0, none⟩)], .int .i8 3, .map none] 37)) HO.out ((blk_alloc_lt w2 _ b (by omega)).trans (HB2.out.block b hbl)))
  have L3 := Lib.hid (HL2.out.alloc (.cells #[.func (Fn.func 15) #[] #[.pointer (some ⟨K, 0, none⟩), .pointer (some ⟨M, 0, none⟩), .pointer (some ⟨E, 0, none⟩), .pointer (some ⟨S, 0, none⟩)], .func (Fn.func 18) #[] #[.pointer (some ⟨M, 0, none⟩), .pointer (some ⟨E, 0, none⟩)], .func (Fn.func 19) #[] #[.pointer (some ⟨M, 0, none⟩), .pointer (some ⟨S, 0, none⟩)], .func (Fn.func 20) #[] #[.pointer (some ⟨M, 0, none⟩), .pointer (some ⟨S, 0, none⟩)], .int .i8 3, .map none] 37))
  have B3 := Lib.hid (HB2.out.alloc HB2.out.size (.cells #[.func (Fn.func 15) #[] #[.pointer (some ⟨K, 0, none⟩), .pointer (some ⟨M, 0, none⟩), .pointer (some ⟨E, 0, none⟩), .pointer (some ⟨S, 0, none⟩)], .func (Fn.func 18) #[] #[.pointer (some ⟨M, 0, none⟩), .pointer (some ⟨E, 0, none⟩)], .func (Fn.func 19) #[] #[.pointer (some ⟨M, 0, none⟩), .pointer (some ⟨S, 0, none⟩)], .func (Fn.func 20) #[] #[.pointer (some ⟨M, 0, none⟩), .pointer (some ⟨S, 0, none⟩)], .int .i8 3, .map none] 37))
  have z3 : (w2.alloc (.cells #[.func (Fn.func 15) #[] #[.pointer (some ⟨K, 0, none⟩), .pointer (some ⟨M, 0, none⟩), .pointer (some ⟨E, 0, none⟩), .pointer (some ⟨S, 0, none⟩)], .func (Fn.func 18) #[] #[.pointer (some ⟨M, 0, none⟩), .pointer (some ⟨E, 0, none⟩)], .func (Fn.func 19) #[] #[.pointer (some ⟨M, 0, none⟩), .pointer (some ⟨S, 0, none⟩)], .func (Fn.func 20) #[] #[.pointer (some ⟨M, 0, none⟩), .pointer (some ⟨S, 0, none⟩)], .int .i8 3, .map none] 37)).heap.size = w2.heap.size + 1 := by simp
  generalize hw3 : w2.alloc (.cells #[.func (Fn.func 15) #[] #[.pointer (some ⟨K, 0, none⟩), .pointer (some ⟨M, 0, none⟩), .pointer (some ⟨E, 0, none⟩), .pointer (some ⟨S, 0, none⟩)], .func (Fn.func 18) #[] #[.pointer (some ⟨M, 0, none⟩), .pointer (some ⟨E, 0, none⟩)], .func (Fn.func 19) #[] #[.pointer (some ⟨M, 0, none⟩), .pointer (some ⟨S, 0, none⟩)], .func (Fn.func 20) #[] #[.pointer (some ⟨M, 0, none⟩), .pointer (some ⟨S, 0, none⟩)], .int .i8 3, .map none] 37) = w3 at l3 O3 L3 B3 z3 ⊢
  have HL3 := Lib.hid l3
  clear hw3
  have c0 : w3.cell? ⟨w2.heap.size, 0, none⟩ = some (.func (Fn.func 15) #[] #[.pointer (some ⟨K, 0, none⟩), .pointer (some ⟨M, 0, none⟩), .pointer (some ⟨E, 0, none⟩), .pointer (some ⟨S, 0, none⟩)]) := by simp [World.cell?, l3]
  have c1 : w3.cell? ⟨w2.heap.size, 1, none⟩ = some (.func (Fn.func 18) #[] #[.pointer (some ⟨M, 0, none⟩), .pointer (some ⟨E, 0, none⟩)]) := by simp [World.cell?, l3]
  have c2 : w3.cell? ⟨w2.heap.size, 2, none⟩ = some (.func (Fn.func 19) #[] #[.pointer (some ⟨M, 0, none⟩), .pointer (some ⟨S, 0, none⟩)]) := by simp [World.cell?, l3]
  have c3 : w3.cell? ⟨w2.heap.size, 3, none⟩ = some (.func (Fn.func 20) #[] #[.pointer (some ⟨M, 0, none⟩), .pointer (some ⟨S, 0, none⟩)]) := by simp [World.cell?, l3]
  have c4 : w3.cell? ⟨w2.heap.size, 4, none⟩ = some (.int .i8 3) := by simp [World.cell?, l3]
  have c5 : w3.cell? ⟨w2.heap.size, 5, none⟩ = some (.map none) := by simp [World.cell?, l3]
  clear l3
  have V := Lib.hid (V7.out K M E S 3 w2.heap.size b n w3 O3.out (by omega) ⟨by omega, by omega, by omega, by omega⟩ L3.out)
  unfold logv ptr at V
  go_wp2_with (fail)
  refine V.out.mono ?_
  rintro e w4 ⟨rfl, ⟨eb, v, ms, hl4, hlen⟩, bel4, far4⟩
  have B4 := Lib.hid (B3.out.trans (bel4 w.heap.size (by omega) (by omega) (by omega) (by omega)))
  have l4 : w4.heap[w2.heap.size]? = some (.cells #[.func (Fn.func 15) #[] #[.pointer (some ⟨K, 0, none⟩), .pointer (some ⟨M, 0, none⟩), .pointer (some ⟨E, 0, none⟩), .pointer (some ⟨S, 0, none⟩)], .func (Fn.func 18) #[] #[.pointer (some ⟨M, 0, none⟩), .pointer (some ⟨E, 0, none⟩)], .func (Fn.func 19) #[] #[.pointer (some ⟨M, 0, none⟩), .pointer (some ⟨S, 0, none⟩)], .func (Fn.func 20) #[] #[.pointer (some ⟨M, 0, none⟩), .pointer (some ⟨S, 0, none⟩)], .int .i8 3, .map none] 37 (0, 0)) := (far4 _ (by omega) (by omega) (by omega) (by omega)).trans HL3.out
  have c3' : w4.cell? ⟨w2.heap.size, 3, none⟩ = some (.func (Fn.func 20) #[] #[.pointer (some ⟨M, 0, none⟩), .pointer (some ⟨S, 0, none⟩)]) := by simp [World.cell?, l4]
  obtain ⟨A, c, rfl⟩ := hl4.form
  have DN := Lib.hid (doneF K M E S 1 eb w2.heap.size (.slice A ms.length c) ms w4 hl4 (by omega))
  clear hl4 bel4 far4 l4 c0 c1 c2 c3 c4 c5
  unfold ptr at DN
  rw [hlen] at DN
  go_wp2_with (fail)
  refine DN.out.mono ?_
  rintro e w5 ⟨rfl, _, far5, bel5⟩
  have z4 := B4.out.size
  have B5 := Lib.hid (B4.out.trans (bel5 w.heap.size (by omega) (by omega)))
  clear far5 bel5
  go_wp2
  refine bodyPost_ret (v := .tuple #[.string sj, .string sc, .int .i64 k]) (by simp [results, Tryf.results7, go_sem]) rfl ⟨rfl, B5.out⟩
/-- zzMinLen. -/
theorem min6 (A0 : Option Addr) (n0 c0 : Nat) (A1 : Option Addr) (n1 c1 : Nat) (w : World) : Calls Tryf.prog 6 #[.slice A0 n0 c0, .slice A1 n1 c1] w fun e w' => e = .returned (.int .i64 (min n0 n1 : Nat)) ∧ w = w' := by
  by_cases h : n1 < n0
  · have e : min n0 n1 = n1 := by omega
    rw [e]
    have h' : (n1 : Int) < n0 := by omega
    go_enter Tryf.func6, Tryf.ntmps6
    go_wp2
    go_ret
    exact ⟨rfl, rfl⟩
  · have e : min n0 n1 = n0 := by omega
    rw [e]
    have h' : ¬ (n1 : Int) < n0 := by omega
    go_enter Tryf.func6, Tryf.ntmps6
    go_wp2
    go_ret
    exact ⟨rfl, rfl⟩
/-- zzBytesOf. -/
theorem bytes5 (A : Option Addr) (n c : Nat) (l : List ByteArray) (w : World) (hl : l.length = n) (hn : n ≤ 4096) (r : Rd w w.heap.size A (sv l)) (m : ∀ s ∈ l, s.size ≤ 1048576) :
    Calls Tryf.prog 5 #[.slice A n c] w fun e w' => (∃ v : Int, e = .returned (.int .i64 v) ∧ 0 ≤ v ∧ v ≤ 8 * n + 1048576 * n) ∧ w = w' := by
  have HL := Lib.hid hl; have HR := Lib.hid r; have HM := Lib.hid m
  clear hl r m
  go_enter Tryf.func5, Tryf.ntmps5
  go_wp2
  go_loop [3, 4] (fun t i => ∃ (k : Nat) (v : Int), k ≤ n ∧ 0 ≤ v ∧ v ≤ 8 * n + 1048576 * k ∧ t = .int .i64 v ∧ i = .int .i64 k) (fun _ i => n - (intOf i).toNat)
  case atStart => exact ⟨0, _, by omega, by omega, by omega, rfl, rfl⟩
  case round =>
    obtain ⟨k, v, hk, v0, v1, rfl, rfl⟩ := hrel
    by_cases hlt : k < n
    · obtain ⟨x, rfl, hxb, cx⟩ := HR.out.at_ (sv_at l k (by rw [HL.out]; exact hlt))
      have z1 := HM.out _ (List.getElem_mem (by rw [HL.out]; exact hlt : k < l.length))
      obtain ⟨s, hs⟩ : ∃ s, s = l[k]'(by rw [HL.out]; exact hlt) := ⟨_, rfl⟩
      rw [← hs] at cx z1
      clear hs
      go_wp2
      go_round
      case rel => exact ⟨k + 1, v + s.size, by omega, by omega, by omega, rfl, by go_num⟩
      case measure => simp [intOf]; omega
    · obtain rfl : k = n := by omega
      go_wp2
      go_ret
      exact ⟨⟨v, rfl, v0, v1⟩, rfl⟩
/-- If it says yes, what the arguments lead to is short. -/
theorem bytes_any (A0 : Option Addr) (n0 c0 : Nat) (l0 : List ByteArray) (A1 : Option Addr) (n1 c1 : Nat) (l1 : List ByteArray) (s2 : ByteArray) (s3 : ByteArray) (w : World) (hl0 : l0.length = n0) (hn0 : n0 ≤ maxLen) (hr0 : Rd w w.heap.size A0 (sv l0)) (hs0 : ∀ s ∈ l0, s.size ≤ maxLen) (hl1 : l1.length = n1) (hn1 : n1 ≤ maxLen) (hr1 : Rd w w.heap.size A1 (sv l1)) (hs1 : ∀ s ∈ l1, s.size ≤ maxLen) (hs2 : s2.size ≤ maxLen) (hs3 : s3.size ≤ maxLen) :
    Calls Tryf.prog 4 #[.slice A0 n0 c0, .slice A1 n1 c1, .string s2, .string s3] w (Bd ((n0 + tot l0) + (n1 + tot l1) + s2.size + s3.size ≤ 1048576) w) := by
  unfold maxLen at hn0
  have HL0 := Lib.hid hl0; have HR0 := Lib.hid hr0; have HS0 := Lib.hid hs0
  clear hl0 hr0 hs0
  unfold maxLen at hn1
  have HL1 := Lib.hid hl1; have HR1 := Lib.hid hr1; have HS1 := Lib.hid hs1
  clear hl1 hr1 hs1
  unfold maxLen at hs2
  unfold maxLen at hs3
  go_enter Tryf.func4, Tryf.ntmps4
  go_wp2
  all_goals try (go_ret; exact ⟨false, rfl, (fun h => by cases h), rfl⟩)
  go_loop [9, 10] (fun z i => ∃ k m : Nat, k ≤ n0 ∧ m ≤ 1048576 ∧ i = .int .i64 k ∧ z = .int .i64 m ∧ Hid (m = n0 + tot (l0.take k))) (fun _ i => n0 - (intOf i).toNat)
  case atStart => exact ⟨0, n0, by omega, by omega, rfl, by go_num, Lib.hid rfl⟩
  case round =>
    obtain ⟨k0, m0, hk0, hm0, rfl, rfl, E0⟩ := hrel
    by_cases hlt0 : k0 < n0
    · have hkl : k0 < l0.length := by rw [HL0.out]; exact hlt0
      obtain ⟨x, rfl, hxb, cx⟩ := HR0.out.at_ (sv_at l0 k0 hkl)
      have hz := HS0.out _ (List.getElem_mem hkl)
      unfold maxLen at hz
      have TS := Lib.hid (tot_step l0 k0 hkl)
      obtain ⟨s, hs⟩ : ∃ s, s = l0[k0] := ⟨_, rfl⟩
      rw [← hs] at cx hz
      have HS := Lib.hid hs
      clear hs
      go_wp2
      all_goals try (go_ret; exact ⟨false, rfl, (fun h => by cases h), rfl⟩)
      go_round
      case rel => exact ⟨k0 + 1, m0 + s.size, by omega, by omega, by go_num, by go_num, Lib.hid (by have := E0.out; have := TS.out; rw [← HS.out] at this; omega)⟩
      case measure => simp [intOf]; omega
    · obtain rfl : k0 = n0 := by omega
      go_wp2
      all_goals try (go_ret; exact ⟨false, rfl, (fun h => by cases h), rfl⟩)
      go_loop [9, 11] (fun z i => ∃ k m : Nat, k ≤ n1 ∧ m ≤ 1048576 ∧ i = .int .i64 k ∧ z = .int .i64 m ∧ Hid (m = m0 + n1 + tot (l1.take k))) (fun _ i => n1 - (intOf i).toNat)
      case atStart => exact ⟨0, m0 + n1, by omega, by omega, rfl, by go_num, Lib.hid rfl⟩
      case round =>
        obtain ⟨k1, m1, hk1, hm1, rfl, rfl, E1⟩ := hrel
        by_cases hlt1 : k1 < n1
        · have hkl : k1 < l1.length := by rw [HL1.out]; exact hlt1
          obtain ⟨x, rfl, hxb, cx⟩ := HR1.out.at_ (sv_at l1 k1 hkl)
          have hz := HS1.out _ (List.getElem_mem hkl)
          unfold maxLen at hz
          have TS := Lib.hid (tot_step l1 k1 hkl)
          obtain ⟨s, hs⟩ : ∃ s, s = l1[k1] := ⟨_, rfl⟩
          rw [← hs] at cx hz
          have HS := Lib.hid hs
          clear hs
          go_wp2
          all_goals try (go_ret; exact ⟨false, rfl, (fun h => by cases h), rfl⟩)
          go_round
          case rel => exact ⟨k1 + 1, m1 + s.size, by omega, by omega, by go_num, by go_num, Lib.hid (by have := E1.out; have := TS.out; rw [← HS.out] at this; omega)⟩
          case measure => simp [intOf]; omega
        · obtain rfl : k1 = n1 := by omega
          go_wp2
          all_goals first | (go_ret; exact ⟨false, rfl, (fun h => by cases h), rfl⟩) | skip
          go_ret
          exact ⟨true, rfl, (fun _ => by have := E0.out; rw [List.take_of_length_le (by rw [HL0.out]; omega)] at this; have := E1.out; rw [List.take_of_length_le (by rw [HL1.out]; omega)] at this; omega), rfl⟩
end Go.Proofs.YtfjiejndnbnkfaaFmt.OeD
