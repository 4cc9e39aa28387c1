/- ZZvalidateLoaders over a map of one key by its contract. Conditions: lengths, a loader of at most 16. -/
import Derived.Test.YtabjelcbldjedaaFmtLdB
namespace Go.Proofs.YtabjelcbldjedaaFmt.LdC
open Go.RowKit Go.Deep Go.Maps Go.ChangeMaps Go.MapKept Go.Proofs.YtabjelcbldjedaaFmt.Base Go.Proofs.YtabjelcbldjedaaFmt.Sls Go.Proofs.YtabjelcbldjedaaFmt.Mps Go.Proofs.YtabjelcbldjedaaFmt.Lk Go.Proofs.YtabjelcbldjedaaFmt.Lm Go.Proofs.YtabjelcbldjedaaFmt.Ln Go.Proofs.YtabjelcbldjedaaFmt.LdA Go.Proofs.YtabjelcbldjedaaFmt.LdB
set_option linter.unusedVariables false
set_option maxRecDepth 20000 in
set_option maxHeartbeats 2000000 in
theorem zz5 (ext : ByteArray) (a : Int) (vb : Bool) (b n : Nat) (w : World) (hx : ext.size ≤ 1048576) (h0 : 0 ≤ a) (h1 : a ≤ 16) (hv : ∀ w, Calls Tryf.prog 16 #[.string ext] w fun e w' => e = .returned (.bool vb) ∧ w = w') (hown : MD w b n (D1 ext a)) :
    Calls Tryf.prog 5 #[.map (some b)] w fun e w' => ∃ g, e = .returned (.tuple #[.map (some g), .int .i64 ((if ext.toList.isEmpty = false ∧ vb = false then 1 else 0 : Nat) : Int)]) ∧ MD w' g 14 (Df ext a) ∧ Below w.heap.size w w' := by
  have hbl := hown.lt
  obtain ⟨k, hk⟩ : ∃ k : Nat, k = if ext.toList.isEmpty = false ∧ vb = false then 1 else 0 := ⟨_, rfl⟩
  have V7 := Lib.hid (fun K M E S lvl base b n w => loaders7 ext a vb K M E S lvl base b n w hx h0 h1 hv)
  have hk1 : k ≤ 1 := by rw [hk]; split <;> omega
  rw [← hk] at V7 ⊢
  have HO := Lib.hid hown
  have hsf := run_store_func
  have NL := Lib.hid (newLog 1)
  clear hk hown hv
  go_enter Tryf.func5, Tryf.ntmps5
  go_wp2_with (fail)
  refine (NL.out _).mono ?_
  rintro e w2 ⟨rfl, hb2, hl2⟩
  have HB2 := Lib.hid hb2; have HL2 := Lib.hid hl2
  have z2 : w.heap.size + 4 < w2.heap.size := hl2.eb'
  clear hb2 hl2
  unfold logv ptr
  go_upto_region 2 with (fail)
  have l3 : (w2.alloc (.cells #[.func (Fn.func 8) #[] #[.pointer (some ⟨w.heap.size, 0, none⟩), .pointer (some ⟨w.heap.size + 3, 0, none⟩), .pointer (some ⟨w.heap.size + 4, 0, none⟩), .pointer (some ⟨w.heap.size + 2, 0, none⟩)], .func (Fn.func 11) #[] #[.pointer (some ⟨w.heap.size + 3, 0, none⟩), .pointer (some ⟨w.heap.size + 4, 0, none⟩)], .func (Fn.func 12) #[] #[.pointer (some ⟨w.heap.size + 3, 0, none⟩), .pointer (some ⟨w.heap.size + 2, 0, none⟩)], .func (Fn.func 13) #[] #[.pointer (some ⟨w.heap.size + 3, 0, none⟩), .pointer (some ⟨w.heap.size + 2, 0, none⟩)], .int .i8 3, .map none] 38)).heap[w2.heap.size]? = some (.cells #[.func (Fn.func 8) #[] #[.pointer (some ⟨w.heap.size, 0, none⟩), .pointer (some ⟨w.heap.size + 3, 0, none⟩), .pointer (some ⟨w.heap.size + 4, 0, none⟩), .pointer (some ⟨w.heap.size + 2, 0, none⟩)], .func (Fn.func 11) #[] #[.pointer (some ⟨w.heap.size + 3, 0, none⟩), .pointer (some ⟨w.heap.size + 4, 0, none⟩)], .func (Fn.func 12) #[] #[.pointer (some ⟨w.heap.size + 3, 0, none⟩), .pointer (some ⟨w.heap.size + 2, 0, none⟩)], .func (Fn.func 13) #[] #[.pointer (some ⟨w.heap.size + 3, 0, none⟩), .pointer (some ⟨w.heap.size + 2, 0, none⟩)], .int .i8 3, .map none] 38 (0, 0)) := heap_alloc_new w2 _
  have O3 := Lib.hid (md_to (w' := w2.alloc (.cells #[.func (Fn.func 8) #[] #[.pointer (some ⟨w.heap.size, 0, none⟩), .pointer (some ⟨w.heap.size + 3, 0, none⟩), .pointer (some ⟨w.heap.size + 4, 0, none⟩), .pointer (some ⟨w.heap.size + 2, 0, none⟩)], .func (Fn.func 11) #[] #[.pointer (some ⟨w.heap.size + 3, 0, none⟩), .pointer (some ⟨w.heap.size + 4, 0, none⟩)], .func (Fn.func 12) #[] #[.pointer (some ⟨w.heap.size + 3, 0, none⟩), .pointer (some ⟨w.heap.size + 2, 0, none⟩)], .func (Fn.func 13) #[] #[.pointer (some ⟨w.heap.size + 3, 0, none⟩), .pointer (some ⟨w.heap.size + 2, 0, none⟩)], .int .i8 3, .map none] 38)) HO.out ((blk_alloc_lt w2 _ b (by omega)).trans (HB2.out.block b hbl)))
  have L3 := Lib.hid (HL2.out.alloc (.cells #[.func (Fn.func 8) #[] #[.pointer (some ⟨w.heap.size, 0, none⟩), .pointer (some ⟨w.heap.size + 3, 0, none⟩), .pointer (some ⟨w.heap.size + 4, 0, none⟩), .pointer (some ⟨w.heap.size + 2, 0, none⟩)], .func (Fn.func 11) #[] #[.pointer (some ⟨w.heap.size + 3, 0, none⟩), .pointer (some ⟨w.heap.size + 4, 0, none⟩)], .func (Fn.func 12) #[] #[.pointer (some ⟨w.heap.size + 3, 0, none⟩), .pointer (some ⟨w.heap.size + 2, 0, none⟩)], .func (Fn.func 13) #[] #[.pointer (some ⟨w.heap.size + 3, 0, none⟩), .pointer (some ⟨w.heap.size + 2, 0, none⟩)], .int .i8 3, .map none] 38))
  have B3 := Lib.hid (HB2.out.alloc HB2.out.size (.cells #[.func (Fn.func 8) #[] #[.pointer (some ⟨w.heap.size, 0, none⟩), .pointer (some ⟨w.heap.size + 3, 0, none⟩), .pointer (some ⟨w.heap.size + 4, 0, none⟩), .pointer (some ⟨w.heap.size + 2, 0, none⟩)], .func (Fn.func 11) #[] #[.pointer (some ⟨w.heap.size + 3, 0, none⟩), .pointer (some ⟨w.heap.size + 4, 0, none⟩)], .func (Fn.func 12) #[] #[.pointer (some ⟨w.heap.size + 3, 0, none⟩), .pointer (some ⟨w.heap.size + 2, 0, none⟩)], .func (Fn.func 13) #[] #[.pointer (some ⟨w.heap.size + 3, 0, none⟩), .pointer (some ⟨w.heap.size + 2, 0, none⟩)], .int .i8 3, .map none] 38))
  have z3 : (w2.alloc (.cells #[.func (Fn.func 8) #[] #[.pointer (some ⟨w.heap.size, 0, none⟩), .pointer (some ⟨w.heap.size + 3, 0, none⟩), .pointer (some ⟨w.heap.size + 4, 0, none⟩), .pointer (some ⟨w.heap.size + 2, 0, none⟩)], .func (Fn.func 11) #[] #[.pointer (some ⟨w.heap.size + 3, 0, none⟩), .pointer (some ⟨w.heap.size + 4, 0, none⟩)], .func (Fn.func 12) #[] #[.pointer (some ⟨w.heap.size + 3, 0, none⟩), .pointer (some ⟨w.heap.size + 2, 0, none⟩)], .func (Fn.func 13) #[] #[.pointer (some ⟨w.heap.size + 3, 0, none⟩), .pointer (some ⟨w.heap.size + 2, 0, none⟩)], .int .i8 3, .map none] 38)).heap.size = w2.heap.size + 1 := by simp
  generalize hw3 : w2.alloc (.cells #[.func (Fn.func 8) #[] #[.pointer (some ⟨w.heap.size, 0, none⟩), .pointer (some ⟨w.heap.size + 3, 0, none⟩), .pointer (some ⟨w.heap.size + 4, 0, none⟩), .pointer (some ⟨w.heap.size + 2, 0, none⟩)], .func (Fn.func 11) #[] #[.pointer (some ⟨w.heap.size + 3, 0, none⟩), .pointer (some ⟨w.heap.size + 4, 0, none⟩)], .func (Fn.func 12) #[] #[.pointer (some ⟨w.heap.size + 3, 0, none⟩), .pointer (some ⟨w.heap.size + 2, 0, none⟩)], .func (Fn.func 13) #[] #[.pointer (some ⟨w.heap.size + 3, 0, none⟩), .pointer (some ⟨w.heap.size + 2, 0, none⟩)], .int .i8 3, .map none] 38) = w3 at l3 O3 L3 B3 z3 ⊢
  have HL3 := Lib.hid l3
  clear hw3
  have c0 : w3.cell? ⟨w2.heap.size, 0, none⟩ = some (.func (Fn.func 8) #[] #[.pointer (some ⟨w.heap.size, 0, none⟩), .pointer (some ⟨w.heap.size + 3, 0, none⟩), .pointer (some ⟨w.heap.size + 4, 0, none⟩), .pointer (some ⟨w.heap.size + 2, 0, none⟩)]) := by simp [World.cell?, l3]
  have c1 : w3.cell? ⟨w2.heap.size, 1, none⟩ = some (.func (Fn.func 11) #[] #[.pointer (some ⟨w.heap.size + 3, 0, none⟩), .pointer (some ⟨w.heap.size + 4, 0, none⟩)]) := by simp [World.cell?, l3]
  have c2 : w3.cell? ⟨w2.heap.size, 2, none⟩ = some (.func (Fn.func 12) #[] #[.pointer (some ⟨w.heap.size + 3, 0, none⟩), .pointer (some ⟨w.heap.size + 2, 0, none⟩)]) := by simp [World.cell?, l3]
  have c3 : w3.cell? ⟨w2.heap.size, 3, none⟩ = some (.func (Fn.func 13) #[] #[.pointer (some ⟨w.heap.size + 3, 0, none⟩), .pointer (some ⟨w.heap.size + 2, 0, none⟩)]) := by simp [World.cell?, l3]
  have c4 : w3.cell? ⟨w2.heap.size, 4, none⟩ = some (.int .i8 3) := by simp [World.cell?, l3]
  have c5 : w3.cell? ⟨w2.heap.size, 5, none⟩ = some (.map none) := by simp [World.cell?, l3]
  clear l3
  have V := Lib.hid (V7.out w.heap.size (w.heap.size + 3) (w.heap.size + 4) (w.heap.size + 2) 3 w2.heap.size b n w3 O3.out (by omega) ⟨by omega, by omega, by omega, by omega⟩ L3.out)
  unfold logv ptr at V
  go_wp2_with (fail)
  refine V.out.mono ?_
  rintro e w4 ⟨rfl, hm4, ⟨eb, v, ms, hl4, hlen, hne⟩, bel4, far4⟩
  have B4 := Lib.hid (B3.out.trans (bel4 w.heap.size (by omega) (by omega) (by omega) (by omega)))
  have l4 : w4.heap[w2.heap.size]? = some (.cells #[.func (Fn.func 8) #[] #[.pointer (some ⟨w.heap.size, 0, none⟩), .pointer (some ⟨w.heap.size + 3, 0, none⟩), .pointer (some ⟨w.heap.size + 4, 0, none⟩), .pointer (some ⟨w.heap.size + 2, 0, none⟩)], .func (Fn.func 11) #[] #[.pointer (some ⟨w.heap.size + 3, 0, none⟩), .pointer (some ⟨w.heap.size + 4, 0, none⟩)], .func (Fn.func 12) #[] #[.pointer (some ⟨w.heap.size + 3, 0, none⟩), .pointer (some ⟨w.heap.size + 2, 0, none⟩)], .func (Fn.func 13) #[] #[.pointer (some ⟨w.heap.size + 3, 0, none⟩), .pointer (some ⟨w.heap.size + 2, 0, none⟩)], .int .i8 3, .map none] 38 (0, 0)) := (far4 _ (by omega) (by omega) (by omega) (by omega)).trans HL3.out
  have c3' : w4.cell? ⟨w2.heap.size, 3, none⟩ = some (.func (Fn.func 13) #[] #[.pointer (some ⟨w.heap.size + 3, 0, none⟩), .pointer (some ⟨w.heap.size + 2, 0, none⟩)]) := by simp [World.cell?, l4]
  obtain ⟨A, c, rfl⟩ := hl4.form
  have DN := Lib.hid (doneF w.heap.size (w.heap.size + 3) (w.heap.size + 4) (w.heap.size + 2) 1 eb w2.heap.size (.slice A ms.length c) ms w4 hl4 (by omega))
  have HM4 := Lib.hid hm4
  have gl4 := hm4.lt
  have g3 : w3.heap.size + 1 < w4.heap.size := gl4
  clear hm4 hl4 bel4 far4 hne l4 c0 c1 c2 c3 c4 c5
  unfold ptr at DN
  rw [hlen] at DN
  go_wp2_with (fail)
  refine DN.out.mono ?_
  rintro e w5 ⟨rfl, _, far5, bel5⟩
  have B5 := Lib.hid (B4.out.trans (bel5 w.heap.size (by omega) (by omega)))
  have M5 := Lib.hid (md_to HM4.out (far5 (w3.heap.size + 1) (by omega) g3))
  clear far5 bel5
  go_wp2
  refine bodyPost_ret (v := .tuple #[.map (some (w3.heap.size + 1)), .int .i64 k]) (by simp [results, Tryf.results5, go_sem]; omega) rfl ⟨_, rfl, M5.out, B5.out⟩
end Go.Proofs.YtabjelcbldjedaaFmt.LdC
