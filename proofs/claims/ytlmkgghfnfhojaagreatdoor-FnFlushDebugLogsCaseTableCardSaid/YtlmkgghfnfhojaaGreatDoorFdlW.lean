/- The walk of the law FnFlushDebugLogsCaseTable: for every text, notes, flags and level it returns true. No condition. -/
import Derived.Test.YtlmkgghfnfhojaaGreatDoorFde
import Derived.Test.YtlmkgghfnfhojaaGreatDoorRows
namespace Go.Proofs.YtlmkgghfnfhojaaGreatDoor.fnFlushDebugLogsCaseTable
open Go.RowKit Go.Deep Go.MuLone Go.Proofs.YtlmkgghfnfhojaaGreatDoor.Base Go.Proofs.YtlmkgghfnfhojaaGreatDoor.Sls Go.Proofs.YtlmkgghfnfhojaaGreatDoor.Lk Go.Proofs.YtlmkgghfnfhojaaGreatDoor.Lm Go.Proofs.YtlmkgghfnfhojaaGreatDoor.Ln Go.Proofs.YtlmkgghfnfhojaaGreatDoor.Fda Go.Proofs.YtlmkgghfnfhojaaGreatDoor.Fdb Go.Proofs.YtlmkgghfnfhojaaGreatDoor.Fdc Go.Proofs.YtlmkgghfnfhojaaGreatDoor.Fdd Go.Proofs.YtlmkgghfnfhojaaGreatDoor.Fde
set_option linter.unusedVariables false
/-- If it says yes, what the arguments lead to is short. -/
theorem bytes_any (s0 : ByteArray) (A1 : Option Addr) (n1 c1 : Nat) (l1 : List ByteArray) (x2 : Value) (x3 : Value) (x4 : Value) (w : World) (hs0 : s0.size ≤ maxLen) (hl1 : l1.length = n1) (hn1 : n1 ≤ maxLen) (hr1 : Rd w w.heap.size A1 (sv l1)) (hs1 : ∀ s ∈ l1, s.size ≤ maxLen) :
    Calls Tryz.prog 4 #[.string s0, .slice A1 n1 c1, x2, x3, x4] w (Bd (s0.size + (n1 + tot l1) ≤ 1048576) w) := by
  unfold maxLen at hs0
  unfold maxLen at hn1
  have HL1 := Lib.hid hl1; have HR1 := Lib.hid hr1; have HS1 := Lib.hid hs1
  clear hl1 hr1 hs1
  go_enter Tryz.func4, Tryz.ntmps4
  go_wp2
  all_goals try (go_ret; exact ⟨false, rfl, (fun h => by cases h), rfl⟩)
  go_loop [11, 12] (fun z i => ∃ k m : Nat, k ≤ n1 ∧ m ≤ 1048576 ∧ i = .int .i64 k ∧ z = .int .i64 m ∧ Hid (m = s0.size + n1 + tot (l1.take k))) (fun _ i => n1 - (intOf i).toNat)
  case atStart => exact ⟨0, s0.size + n1, by omega, by omega, rfl, by go_num, Lib.hid rfl⟩
  case round =>
    obtain ⟨k1, m1, hk1, hm1, rfl, rfl, E1⟩ := hrel
    by_cases hlt1 : k1 < n1
    · have hkl : k1 < l1.length := by rw [HL1.out]; exact hlt1
      obtain ⟨x, rfl, hxb, cx⟩ := HR1.out.at_ (sv_at l1 k1 hkl)
      have hz := HS1.out _ (List.getElem_mem hkl)
      unfold maxLen at hz
      have TS := Lib.hid (tot_step l1 k1 hkl)
      obtain ⟨s, hs⟩ : ∃ s, s = l1[k1] := ⟨_, rfl⟩
      rw [← hs] at cx hz
      have HS := Lib.hid hs
      clear hs
      go_wp2
      all_goals try (go_ret; exact ⟨false, rfl, (fun h => by cases h), rfl⟩)
      go_round
      case rel => exact ⟨k1 + 1, m1 + s.size, by omega, by omega, by go_num, by go_num, Lib.hid (by have := E1.out; have := TS.out; rw [← HS.out] at this; omega)⟩
      case measure => simp [intOf]; omega
    · obtain rfl : k1 = n1 := by omega
      go_wp2
      all_goals first | (go_ret; exact ⟨false, rfl, (fun h => by cases h), rfl⟩) | skip
      go_ret
      exact ⟨true, rfl, (fun _ => by have := E1.out; rw [List.take_of_length_le (by rw [HL1.out]; omega)] at this; omega), rfl⟩

/-- The cells of the one message. -/
theorem msg0 {w : World} {K M E S : Nat} {kn : Int} {eb : Bool} {base : Nat} {v : Value} {m : Ms} (h : Lg w K M E S kn eb base v [m]) :
    ∃ g c, v = .slice (some ⟨g, 0, none⟩) 1 c ∧ g < w.heap.size ∧ base ≤ g ∧ ∀ j, j < 8 → w.cell? ⟨g, j, none⟩ = m.cells[j]? := by
  obtain ⟨A, c, rfl⟩ := h.form
  obtain ⟨g, rfl⟩ : ∃ g, A = some ⟨g, 0, none⟩ := by
    rcases h.row.2 with ⟨_, h1⟩ | ⟨g, c', cur, h0, _⟩
    · exact absurd h1 (by simp)
    · injection h0 with h0; exact ⟨g, h0⟩
  refine ⟨g, c, rfl, (h.row.lt g rfl).2, (h.row.lt g rfl).1, fun j hj => ?_⟩
  have := h.row.cellAt j (show j < ([m] : List Ms).length * 8 by simp; exact hj)
  rw [this]
  have := flat_get [m] 0 j (by simp) hj
  simpa using this
/-- A block of four cells, stored anew. -/
theorem four (w : World) (B t : Nat) (z0 z1 z2 z3 v0 v1 v2 v3 : Value) (h : w.heap[B]? = some (.cells #[z0, z1, z2, z3] t (0, 0))) : ((((w.setCell ⟨B, 0, none⟩ v0).setCell ⟨B, 1, none⟩ v1).setCell ⟨B, 2, none⟩ v2).setCell ⟨B, 3, none⟩ v3).heap[B]? = some (.cells #[v0, v1, v2, v3] t (0, 0)) := by
  simp [World.setCell, Array.getElem?_modify, h]
theorem four_far (w : World) (B : Nat) (v0 v1 v2 v3 : Value) (q : Nat) (hne : q ≠ B) : ((((w.setCell ⟨B, 0, none⟩ v0).setCell ⟨B, 1, none⟩ v1).setCell ⟨B, 2, none⟩ v2).setCell ⟨B, 3, none⟩ v3).heap[q]? = w.heap[q]? := by
  repeat rw [blk_setCell_other _ _ _ _ (by exact hne)]
theorem four_size (w : World) (B : Nat) (v0 v1 v2 v3 : Value) : ((((w.setCell ⟨B, 0, none⟩ v0).setCell ⟨B, 1, none⟩ v1).setCell ⟨B, 2, none⟩ v2).setCell ⟨B, 3, none⟩ v3).heap.size = w.heap.size := by simp
theorem four_below (w : World) (B b : Nat) (hb : b ≤ B) (v0 v1 v2 v3 : Value) : Below b w ((((w.setCell ⟨B, 0, none⟩ v0).setCell ⟨B, 1, none⟩ v1).setCell ⟨B, 2, none⟩ v2).setCell ⟨B, 3, none⟩ v3) :=
  ((((Below.refl b w).setCell hb _).setCell hb _).setCell hb _).setCell hb _
theorem nil_app (s : ByteArray) : ({ data := #[] } : ByteArray) ++ s = s := by
  apply ext_list; rw [list_append]; rfl
/-- What stands ahead of the flush, with debug logs. -/
structure Pre (what : ByteArray) (l : List ByteArray) (n : Nat) (b0 d : Nat) (A : Option Addr) (c : Nat) (AN : Option Addr) (cN : Nat) (W : World) : Prop where
  strs : Own W b0 9 (.slice A n c) (sv l)
  row : W.rowIs d 50 3 (dl what { data := #[] } (.slice AN n cN))
  nts : Nts W d (.slice AN n cN) l
theorem Pre.kt {what : ByteArray} {l : List ByteArray} {n b0 d c cN : Nat} {A AN : Option Addr} {W W' : World} (h : Pre what l n b0 d A c AN cN W) (k : Kt 34 W W') : Pre what l n b0 d A c AN cN W' :=
  ⟨own_kt h.strs k (by decide), row_kt h.row k (by decide), h.nts.kt k (by decide)⟩
theorem kt34 {w w' : World} {B : Nat} {cs : Array Value} (hB : w.heap[B]? = some (.cells cs 34 (0, 0))) (h : ∀ q, q < w.heap.size → q ≠ B → w'.heap[q]? = w.heap[q]?) : Kt 34 w w' := fun q c t hq ht => by
  refine (h q (lt_of_block hq) ?_).trans hq
  rintro rfl
  rw [hB] at hq
  injection hq with hq
  injection hq with _ h2
  exact ht h2.symm
theorem Own.rd_lt {w : World} {base e : Nat} {A : Option Addr} {n c : Nat} {xs : List Value} (h : Own w base e (.slice A n c) xs) : Rd w w.heap.size A xs := h.rd
set_option maxRecDepth 100000 in
set_option maxHeartbeats 4000000 in
theorem main (what : ByteArray) (A1 : Option Addr) (n1 c1 : Nat) (l : List ByteArray) (hasLogs success : Bool) (lv : Int) (w : World) (hl : l.length = n1) (hn : n1 ≤ 4096) (hz : what.size + (8 * n1 + tot l) ≤ 1048576) (hnil : A1 = none → n1 = 0 ∧ c1 = 0) (hr : Rd w w.heap.size A1 (sv l)) (l0 : 0 ≤ lv) (l1 : lv ≤ 6) (hlv : hasLogs = true → lv ≤ 2)
    (hy : Calls Tryz.prog 4 #[.string what, .slice A1 n1 c1, .bool hasLogs, .bool success, .int .i64 lv] w (Bd True w)) :
    Calls Tryz.prog 3 #[.string what, .slice A1 n1 c1, .bool hasLogs, .bool success, .int .i64 lv] w fun e w' => e = .returned (.bool true) ∧ Below w.heap.size w w' := by
  have HY := Lib.hid hy
  have SM := Lib.hid (sum_any A1 n1 c1 l w hl (by omega) hr)
  have CS := Lib.hid (cloneS A1 n1 c1 l w hl hn hnil hr)
  have LV := Lib.hid (fun w => level7 lv w l0 l1)
  have HL := Lib.hid hl
  have hw : what.size ≤ 1048576 := by omega
  have hzz : ¬ (1048576 : Int) < (what.size : Int) + ((8 * n1 + tot l : Nat) : Int) := by omega
  have HZ := Lib.hid hz
  obtain ⟨T, hT⟩ : ∃ T, 8 * n1 + tot l = T := ⟨_, rfl⟩
  rw [hT] at SM hzz
  clear hy hl hr hT hz
  go_enter Tryz.func3, Tryz.ntmps3
  go_wp2_with (fail)
  refine HY.out.mono ?_
  rintro e w1 ⟨b1, rfl, _, rfl⟩
  cases b1
  · go_wp2
    go_ret
    exact ⟨rfl, Below.refl _ _⟩
  go_wp2_with (fail)
  refine SM.out.mono ?_
  rintro e w1 ⟨rfl, rfl⟩
  cases hasLogs
  · clear hlv
    go_wp2_with (fail)
    refine CS.out.mono ?_
    rintro e w1 ⟨A, c, rfl, ho, hb⟩
    have HO := Lib.hid ho; have HB := Lib.hid hb
    clear ho hb
    go_wp2_with (fail)
    refine (LV.out w1).mono ?_
    rintro e w2 ⟨rfl, rfl⟩
    go_wp2_with (fail)
    refine (query10 lv none _).mono ?_
    rintro e w2 ⟨R, K, M, E, S, base, rfl, hR, hL, hb2, kK, kM, kE, kS, kR⟩
    have z1 : (w1.alloc (.cells #[.pointer none, .pointer none, .pointer none, .int .u8 0] 34)).heap.size = w1.heap.size + 1 := by simp
    rw [z1] at kK kM kE kS
    have x2 : w2.heap[w1.heap.size]? = some (.cells #[.pointer none, .pointer none, .pointer none, .int .u8 0] 34 (0, 0)) := (hb2.block _ (by rw [z1]; omega)).trans (heap_alloc_new w1 _)
    have B2 := Lib.hid ((HB.out.alloc HB.out.size (.cells #[.pointer none, .pointer none, .pointer none, .int .u8 0] 34)).trans (hb2.mono (by rw [z1]; have := HB.out.size; omega)))
    have z2 : w1.heap.size + 1 ≤ w2.heap.size := by rw [← z1]; exact hb2.size
    have c0 : w2.cell? ⟨w1.heap.size, 0, none⟩ = some (.pointer none) := by simp [World.cell?, x2]
    have f0 : w2.frozen? ⟨w1.heap.size, 0, none⟩ = false := by simp [World.frozen?, x2]
    have c1 : w2.cell? ⟨w1.heap.size, 1, none⟩ = some (.pointer none) := by simp [World.cell?, x2]
    have f1 : w2.frozen? ⟨w1.heap.size, 1, none⟩ = false := by simp [World.frozen?, x2]
    have c2 : w2.cell? ⟨w1.heap.size, 2, none⟩ = some (.pointer none) := by simp [World.cell?, x2]
    have f2 : w2.frozen? ⟨w1.heap.size, 2, none⟩ = false := by simp [World.frozen?, x2]
    have c3 : w2.cell? ⟨w1.heap.size, 3, none⟩ = some (.int .u8 0) := by simp [World.cell?, x2]
    have f3 : w2.frozen? ⟨w1.heap.size, 3, none⟩ = false := by simp [World.frozen?, x2]
    have X3 := Lib.hid (four w2 w1.heap.size 34 _ _ _ _ (.pointer (some ⟨R, 0, none⟩)) (.pointer none) (.pointer none) (.int .u8 0) x2)
    have RS3 := Lib.hid (hR.to (four_far w2 w1.heap.size (.pointer (some ⟨R, 0, none⟩)) (.pointer none) (.pointer none) (.int .u8 0) R (by have := hL.kb; omega)))
    have L3 := Lib.hid (hL.kept (Nat.le_of_eq (four_size w2 w1.heap.size (.pointer (some ⟨R, 0, none⟩)) (.pointer none) (.pointer none) (.int .u8 0)).symm) (fun q hq => four_far w2 w1.heap.size (.pointer (some ⟨R, 0, none⟩)) (.pointer none) (.pointer none) (.int .u8 0) q (by rcases hq with rfl | rfl | rfl | rfl | hq <;> first | omega | cases hq)))
    have B3 := Lib.hid (B2.out.trans (four_below w2 w1.heap.size w.heap.size HB.out.size (.pointer (some ⟨R, 0, none⟩)) (.pointer none) (.pointer none) (.int .u8 0)))
    clear hR hL hb2 x2
    unfold qv
    have hw1 := HB.out.size
    cases success
    · go_wp2_with (fail)
      generalize ((((w2.setCell ⟨w1.heap.size, 0, none⟩ (.pointer (some ⟨R, 0, none⟩))).setCell ⟨w1.heap.size, 1, none⟩ (.pointer none)).setCell ⟨w1.heap.size, 2, none⟩ (.pointer none)).setCell ⟨w1.heap.size, 3, none⟩ (.int .u8 0)) = w3 at X3 RS3 L3 B3 ⊢
      clear c0 c1 c2 c3 f0 f1 f2 f3
      have F := Lib.hid (zz12 R none w3 (fun w' => Below w3.heap.size w3 w') ((flushNil R 0 _ (by decide) (by decide)).mono fun e w' h => ⟨h.1, ((Below.refl _ w3).alloc (Nat.le_refl _) _).trans (h.2.mono (by simp))⟩))
      unfold qv at F
      refine F.out.mono ?_
      rintro e w4 ⟨rfl, b4⟩
      have x4 := (b4.block w1.heap.size (lt_of_block X3.out)).trans X3.out
      have RS4 := Rs.to RS3.out (b4.block R (Rs.lt RS3.out))
      have L4 := L3.out.kept b4.size (fun q hq => b4.block q (by have h1 := L3.out.kb; have h2 := L3.out.mb; have h3 := L3.out.eb'; have h4 := L3.out.sb; have h5 := L3.out.bs; rcases hq with rfl | rfl | rfl | rfl | hq <;> first | omega | cases hq))
      have B4 := Lib.hid (B3.out.trans (b4.mono B3.out.size))
      have g0 : w4.cell? ⟨w1.heap.size, 0, none⟩ = some (.pointer (some ⟨R, 0, none⟩)) := by simp [World.cell?, x4]
      have g1 : w4.cell? ⟨w1.heap.size, 1, none⟩ = some (.pointer none) := by simp [World.cell?, x4]
      have g2 : w4.cell? ⟨w1.heap.size, 2, none⟩ = some (.pointer none) := by simp [World.cell?, x4]
      have g3 : w4.cell? ⟨w1.heap.size, 3, none⟩ = some (.int .u8 0) := by simp [World.cell?, x4]
      have LG := Lib.hid (logged13 R K M E S base lv none (.slice none 0 0) [] w4 RS4 L4 (by simp))
      unfold qv at LG
      clear x4 RS4 L4 b4 F
      go_wp2_with (fail)
      refine LG.out.mono ?_
      rintro e w5 ⟨rfl, hl5, far5, bel5⟩
      have B5 := Lib.hid (B4.out.trans (bel5 w.heap.size (by omega) B4.out.size))
      clear hl5 far5 bel5
      go_wp2
      go_ret
      exact ⟨rfl, B5.out⟩
    · go_wp2_with (fail)
      generalize ((((w2.setCell ⟨w1.heap.size, 0, none⟩ (.pointer (some ⟨R, 0, none⟩))).setCell ⟨w1.heap.size, 1, none⟩ (.pointer none)).setCell ⟨w1.heap.size, 2, none⟩ (.pointer none)).setCell ⟨w1.heap.size, 3, none⟩ (.int .u8 0)) = w3 at X3 RS3 L3 B3 ⊢
      clear c0 c1 c2 c3 f0 f1 f2 f3
      have F := Lib.hid (zz11 R none w3 (fun w' => Below w3.heap.size w3 w') ((flushNil R 1 _ (by decide) (by decide)).mono fun e w' h => ⟨h.1, ((Below.refl _ w3).alloc (Nat.le_refl _) _).trans (h.2.mono (by simp))⟩))
      unfold qv at F
      refine F.out.mono ?_
      rintro e w4 ⟨rfl, b4⟩
      have x4 := (b4.block w1.heap.size (lt_of_block X3.out)).trans X3.out
      have RS4 := Rs.to RS3.out (b4.block R (Rs.lt RS3.out))
      have L4 := L3.out.kept b4.size (fun q hq => b4.block q (by have h1 := L3.out.kb; have h2 := L3.out.mb; have h3 := L3.out.eb'; have h4 := L3.out.sb; have h5 := L3.out.bs; rcases hq with rfl | rfl | rfl | rfl | hq <;> first | omega | cases hq))
      have B4 := Lib.hid (B3.out.trans (b4.mono B3.out.size))
      have g0 : w4.cell? ⟨w1.heap.size, 0, none⟩ = some (.pointer (some ⟨R, 0, none⟩)) := by simp [World.cell?, x4]
      have g1 : w4.cell? ⟨w1.heap.size, 1, none⟩ = some (.pointer none) := by simp [World.cell?, x4]
      have g2 : w4.cell? ⟨w1.heap.size, 2, none⟩ = some (.pointer none) := by simp [World.cell?, x4]
      have g3 : w4.cell? ⟨w1.heap.size, 3, none⟩ = some (.int .u8 0) := by simp [World.cell?, x4]
      have LG := Lib.hid (logged13 R K M E S base lv none (.slice none 0 0) [] w4 RS4 L4 (by simp))
      unfold qv at LG
      clear x4 RS4 L4 b4 F
      go_wp2_with (fail)
      refine LG.out.mono ?_
      rintro e w5 ⟨rfl, hl5, far5, bel5⟩
      have B5 := Lib.hid (B4.out.trans (bel5 w.heap.size (by omega) B4.out.size))
      clear hl5 far5 bel5
      go_wp2
      go_ret
      exact ⟨rfl, B5.out⟩
  · have hlv := hlv rfl
    go_wp2_with (fail)
    refine CS.out.mono ?_
    rintro e w1 ⟨A, c, rfl, ho, hb⟩
    have HO := Lib.hid ho; have HB := Lib.hid hb
    clear ho hb
    go_wp2_with (fail)
    refine (LV.out w1).mono ?_
    rintro e w2 ⟨rfl, rfl⟩
    go_wp2_with (fail)
    refine (new_any what _).mono ?_
    rintro e w2 ⟨rfl, rfl⟩
    go_wp2_with (fail)
    generalize hW1 : w1.alloc (.cells #[.pointer none, .pointer none, .pointer none, .int .u8 0] 34) = W1
    have zW : W1.heap.size = w1.heap.size + 1 := by rw [← hW1]; simp
    have xW : W1.heap[w1.heap.size]? = some (.cells #[.pointer none, .pointer none, .pointer none, .int .u8 0] 34 (0, 0)) := by rw [← hW1]; exact heap_alloc_new w1 _
    have BW := Lib.hid (show Below w.heap.size w W1 by rw [← hW1]; exact HB.out.alloc HB.out.size _)
    have OW := Lib.hid (show Own W1 w.heap.size 9 (.slice A n1 c) (sv l) by rw [← hW1]; exact World.ownsRow.alloc HO.out _)
    have hw1 := HB.out.size
    clear hW1
    obtain ⟨d, hd⟩ : ∃ d, d = w1.heap.size + 1 := ⟨_, rfl⟩
    have NR := Lib.hid (new_row what W1)
    have NZ : Hid (Nts (W1.alloc (.cells #[.string what, .string { data := #[] }, .slice none 0 0] 50)) d (.slice none 0 0) []) := Lib.hid (World.ownsRow_nil _ _ _ _)
    have x2 := Lib.hid ((blk_alloc_lt W1 (.cells #[.string what, .string { data := #[] }, .slice none 0 0] 50) w1.heap.size (by omega)).trans xW)
    have B2 := Lib.hid (BW.out.alloc BW.out.size (.cells #[.string what, .string { data := #[] }, .slice none 0 0] 50))
    have O2 := Lib.hid (World.ownsRow.alloc OW.out (.cells #[.string what, .string { data := #[] }, .slice none 0 0] 50))
    have z2 : d < (W1.alloc (.cells #[.string what, .string { data := #[] }, .slice none 0 0] 50)).heap.size := by simp; omega
    rw [zW, ← hd] at NR
    rw [← hd]
    have hdw : w1.heap.size < d := by omega
    generalize W1.alloc (.cells #[.string what, .string { data := #[] }, .slice none 0 0] 50) = w2 at NR NZ x2 B2 O2 z2 ⊢
    clear xW zW hd BW OW HO
    go_loopw [14] (fun i wr => ∃ (k cN : Nat) (AN : Option Addr), k ≤ n1 ∧ i = .int .i64 k ∧ Hid (wr.rowIs d 50 3 (dl what { data := #[] } (.slice AN k cN))) ∧ Hid (Nts wr d (.slice AN k cN) (l.take k)) ∧ Hid (Own wr w.heap.size 9 (.slice A n1 c) (sv l)) ∧ Hid (wr.heap[w1.heap.size]? = some (.cells #[.pointer none, .pointer none, .pointer none, .int .u8 0] 34 (0, 0))) ∧ Hid (Below w.heap.size w wr) ∧ d < wr.heap.size) (fun i _ => n1 - (intOf i).toNat)
    case atStart => exact ⟨0, 0, none, by omega, rfl, NR, NZ, O2, x2, B2, z2⟩
    case round =>
      obtain ⟨k, cN, AN, hk, rfl, HRr, HNr, HOr, Hxr, HBr, hdr⟩ := hrel
      by_cases hlt : k < n1
      · have hkl : k < l.length := by rw [HL.out]; exact hlt
        obtain ⟨x, rfl, hxb, cx⟩ := (Own.rd_lt HOr.out).at_ (sv_at l k hkl)
        have hsz : (l[k]).size ≤ 1048576 := by have := tot_mem l k hkl; have := HZ.out; omega
        have HTK := Lib.hid (show l.take (k + 1) = l.take k ++ [l[k]] by rw [List.take_add_one, List.getElem?_eq_getElem hkl]; rfl)
        have hlk : (l.take k).length = k := by rw [List.length_take]; omega
        obtain ⟨s, hs⟩ : ∃ s, s = l[k] := ⟨_, rfl⟩
        rw [← hs] at cx hsz HTK
        have NT := Lib.hid (note_any d d k cN AN what { data := #[] } s (l.take k) wr hlk (by omega) (by show 0 + _ ≤ _; omega) (Nat.le_refl _) HRr.out HNr.out (by omega))
        rw [nil_app] at NT
        have x1 : (k : Int) < (n1 : Int) := by omega
        clear hs hlk
        go_wp2_with (fail)
        refine NT.out.mono ?_
        rintro e w7 ⟨rfl, A7, c7, r7, n7, b7, w6, k6, k7⟩
        rw [← HTK.out] at r7 n7
        have hl7 : (l.take (k + 1)).length = k + 1 := by rw [List.length_take]; omega
        rw [hl7] at r7 n7
        have RR := Lib.hid r7; have RN := Lib.hid n7
        have RO : Hid (Own w7 w.heap.size 9 (.slice (some x) n1 c) (sv l)) := Lib.hid (own_kt (own_kt HOr.out k6 (by decide)) k7 (by decide))
        have RX := Lib.hid (k7 _ _ _ (k6 _ _ _ Hxr.out (by decide)) (by decide))
        have RB := Lib.hid (HBr.out.trans (b7.mono (by omega)))
        have rz : d < w7.heap.size := r7.lt
        clear r7 n7 b7 k6 k7 hl7
        go_wp2
        go_roundw
        case rel => exact ⟨k + 1, c7, A7, by omega, by go_num, RR, RN, RO, RX, RB, rz⟩
        case measure => simp [intOf]; omega
      · obtain rfl : k = n1 := by omega
        have hP : Pre what l k w.heap.size d _ _ AN cN wr := ⟨HOr.out, HRr.out, by have := HNr.out; rwa [List.take_of_length_le (by rw [HL.out]; exact Nat.le_refl _)] at this⟩
        have HP := Lib.hid hP
        clear hP HRr HNr HOr NR NZ O2 x2 B2
        go_wp2_with (fail)
        refine (query10 lv (some ⟨d, 0, none⟩) wr).mono ?_
        rintro e w2 ⟨R, K, M, E, S, base, rfl, hR, hL, hb2, kK, kM, kE, kS, kR⟩
        have x2 : w2.heap[w1.heap.size]? = some (.cells #[.pointer none, .pointer none, .pointer none, .int .u8 0] 34 (0, 0)) := (hb2.block _ (by omega)).trans Hxr.out
        have B2 := Lib.hid (HBr.out.trans (hb2.mono HBr.out.size))
        have zr := HBr.out.size
        have hRK := hL.kb
        have hX : ¬ w1.heap.size = K ∧ ¬ w1.heap.size = M ∧ ¬ w1.heap.size = E ∧ ¬ w1.heap.size = S := ⟨by omega, by omega, by omega, by omega⟩
        have z2 := hb2.size
        have c0 : w2.cell? ⟨w1.heap.size, 0, none⟩ = some (.pointer none) := by simp [World.cell?, x2]
        have f0 : w2.frozen? ⟨w1.heap.size, 0, none⟩ = false := by simp [World.frozen?, x2]
        have c1 : w2.cell? ⟨w1.heap.size, 1, none⟩ = some (.pointer none) := by simp [World.cell?, x2]
        have f1 : w2.frozen? ⟨w1.heap.size, 1, none⟩ = false := by simp [World.frozen?, x2]
        have c2 : w2.cell? ⟨w1.heap.size, 2, none⟩ = some (.pointer none) := by simp [World.cell?, x2]
        have f2 : w2.frozen? ⟨w1.heap.size, 2, none⟩ = false := by simp [World.frozen?, x2]
        have c3 : w2.cell? ⟨w1.heap.size, 3, none⟩ = some (.int .u8 0) := by simp [World.cell?, x2]
        have f3 : w2.frozen? ⟨w1.heap.size, 3, none⟩ = false := by simp [World.frozen?, x2]
        have X3 := Lib.hid (four w2 w1.heap.size 34 _ _ _ _ (.pointer (some ⟨R, 0, none⟩)) (.pointer none) (.pointer (some ⟨d, 0, none⟩)) (.int .u8 0) x2)
        have RS3 := Lib.hid (hR.to (four_far w2 w1.heap.size (.pointer (some ⟨R, 0, none⟩)) (.pointer none) (.pointer (some ⟨d, 0, none⟩)) (.int .u8 0) R (by omega)))
        have L3 := Lib.hid (hL.kept (Nat.le_of_eq (four_size w2 w1.heap.size (.pointer (some ⟨R, 0, none⟩)) (.pointer none) (.pointer (some ⟨d, 0, none⟩)) (.int .u8 0)).symm) (fun q hq => four_far w2 w1.heap.size (.pointer (some ⟨R, 0, none⟩)) (.pointer none) (.pointer (some ⟨d, 0, none⟩)) (.int .u8 0) q (by rcases hq with rfl | rfl | rfl | rfl | hq <;> first | omega | cases hq)))
        have B3 := Lib.hid (B2.out.trans (four_below w2 w1.heap.size w.heap.size HB.out.size (.pointer (some ⟨R, 0, none⟩)) (.pointer none) (.pointer (some ⟨d, 0, none⟩)) (.int .u8 0)))
        have E3 : Hid (∀ q, q < wr.heap.size → q ≠ w1.heap.size → ((((w2.setCell ⟨w1.heap.size, 0, none⟩ (.pointer (some ⟨R, 0, none⟩))).setCell ⟨w1.heap.size, 1, none⟩ (.pointer none)).setCell ⟨w1.heap.size, 2, none⟩ (.pointer (some ⟨d, 0, none⟩))).setCell ⟨w1.heap.size, 3, none⟩ (.int .u8 0)).heap[q]? = wr.heap[q]?) := Lib.hid fun q h1 h2 => (four_far w2 w1.heap.size (.pointer (some ⟨R, 0, none⟩)) (.pointer none) (.pointer (some ⟨d, 0, none⟩)) (.int .u8 0) q h2).trans (hb2.block q h1)
        have z3 : wr.heap.size ≤ ((((w2.setCell ⟨w1.heap.size, 0, none⟩ (.pointer (some ⟨R, 0, none⟩))).setCell ⟨w1.heap.size, 1, none⟩ (.pointer none)).setCell ⟨w1.heap.size, 2, none⟩ (.pointer (some ⟨d, 0, none⟩))).setCell ⟨w1.heap.size, 3, none⟩ (.int .u8 0)).heap.size := by rw [four_size]; exact z2
        clear hR hL hb2 x2
        unfold qv
        cases success
        · go_wp2_with (fail)
          generalize ((((w2.setCell ⟨w1.heap.size, 0, none⟩ (.pointer (some ⟨R, 0, none⟩))).setCell ⟨w1.heap.size, 1, none⟩ (.pointer none)).setCell ⟨w1.heap.size, 2, none⟩ (.pointer (some ⟨d, 0, none⟩))).setCell ⟨w1.heap.size, 3, none⟩ (.int .u8 0)) = w3 at X3 RS3 L3 B3 E3 z3 ⊢
          clear c0 c1 c2 c3 f0 f1 f2 f3
          have P3 := Lib.hid (HP.out.kt (kt34 Hxr.out E3.out))
          have hbK := L3.out.kb; have hbM := L3.out.mb; have hbE := L3.out.eb'; have hbS := L3.out.sb; have hbb := L3.out.bs
          have F := Lib.hid (zz12 R (some ⟨d, 0, none⟩) w3 (fun w' => (∃ v', Lg w' K M E S 0 false base v' [⟨AN, k, cN, { data := #[] }, what, false, 4, 0⟩]) ∧ (∀ q, q ≠ M → q ≠ S → q ≠ E → q < w3.heap.size → w'.heap[q]? = w3.heap[q]?) ∧ ∀ B, B ≤ M → B ≤ S → B ≤ E → B ≤ base → Below B w3 w') ((flush4 R K M E S d base lv what AN k cN _ (RS3.out.to (blk_alloc_lt w3 (.cells #[.pointer (some ⟨R, 0, none⟩), .pointer none, .pointer (some ⟨d, 0, none⟩), .int .u8 0] 34) R RS3.out.lt)) (L3.out.alloc _) (P3.out.row.of_block (blk_alloc_lt w3 (.cells #[.pointer (some ⟨R, 0, none⟩), .pointer none, .pointer (some ⟨d, 0, none⟩), .int .u8 0] 34) d P3.out.row.lt)) kR ⟨by omega, by omega, by omega⟩).mono fun e w' h => ⟨h.1, h.2.1, fun q h1 h2 h3 h4 => (h.2.2.1 q h1 h2 h3 (by simp; omega)).trans (blk_alloc_lt w3 _ q h4), fun B h1 h2 h3 h4 => ((Below.refl B w3).alloc (by omega) _).trans (h.2.2.2 B h1 h2 h3 h4)⟩))
          unfold qv at F
          refine F.out.mono ?_
          rintro e w4 ⟨rfl, ⟨v4, l4⟩, far4, bel4⟩
          have x4 := (far4 w1.heap.size (by omega) (by omega) (by omega) (by omega)).trans X3.out
          have hzR := RS3.out.lt
          have RS4 := RS3.out.to (far4 R (by omega) (by omega) (by omega) hzR)
          have b4 := bel4 w.heap.size (by omega) (by omega) (by omega) (by omega)
          have B4 := Lib.hid (B3.out.trans b4)
          have E4 : Hid (∀ q, q < wr.heap.size → q ≠ w1.heap.size → w4.heap[q]? = wr.heap[q]?) := Lib.hid fun q h1 h2 => (far4 q (by omega) (by omega) (by omega) (by omega)).trans (E3.out q h1 h2)
          have g0 : w4.cell? ⟨w1.heap.size, 0, none⟩ = some (.pointer (some ⟨R, 0, none⟩)) := by simp [World.cell?, x4]
          have g1 : w4.cell? ⟨w1.heap.size, 1, none⟩ = some (.pointer none) := by simp [World.cell?, x4]
          have g2 : w4.cell? ⟨w1.heap.size, 2, none⟩ = some (.pointer (some ⟨d, 0, none⟩)) := by simp [World.cell?, x4]
          have g3 : w4.cell? ⟨w1.heap.size, 3, none⟩ = some (.int .u8 0) := by simp [World.cell?, x4]
          have LG := Lib.hid (logged13 R K M E S base lv (some ⟨d, 0, none⟩) v4 _ w4 RS4 l4 (by simp))
          unfold qv at LG
          have z4 : w3.heap.size ≤ w4.heap.size := b4.size
          clear x4 RS4 far4 bel4 b4 F l4
          go_wp2_with (fail)
          refine LG.out.mono ?_
          rintro e w5 ⟨rfl, hl5, far5, bel5⟩
          have B5 := Lib.hid (B4.out.trans (bel5 w.heap.size (by omega) B4.out.size))
          obtain ⟨g, cg, rfl, hg1, hg2, hcg⟩ := msg0 hl5
          have P5 := Lib.hid (HP.out.kt (kt34 (w' := w5) Hxr.out (fun q h1 h2 => (far5 q (by omega) (by omega)).trans (E4.out q h1 h2))))
          have h0 := hcg 0 (by omega); have h1 := hcg 1 (by omega); have h2 := hcg 2 (by omega); have h3 := hcg 3 (by omega); have h4 := hcg 4 (by omega); have h5 := hcg 5 (by omega); have h6 := hcg 6 (by omega); have h7 := hcg 7 (by omega)
          simp only [Ms.cells, List.getElem?_cons_zero, List.getElem?_cons_succ] at h0 h1 h2 h3 h4 h5 h6 h7
          have MT := Lib.hid (match14 AN k cN A c d l what 4 w5 HL.out hn P5.out.nts (Own.rd_lt P5.out.strs))
          clear hl5 far5 bel5 hcg LG
          go_wp2_with (first | (go_at_call 14; refine MT.out.mono ?_; rintro e w6 ⟨rfl, b6⟩) | fail)
          go_ret
          exact ⟨rfl, B5.out.trans (b6.mono B5.out.size)⟩
        by_cases hle : lv ≤ 1
        · go_wp2_with (fail)
          generalize ((((w2.setCell ⟨w1.heap.size, 0, none⟩ (.pointer (some ⟨R, 0, none⟩))).setCell ⟨w1.heap.size, 1, none⟩ (.pointer none)).setCell ⟨w1.heap.size, 2, none⟩ (.pointer (some ⟨d, 0, none⟩))).setCell ⟨w1.heap.size, 3, none⟩ (.int .u8 0)) = w3 at X3 RS3 L3 B3 E3 z3 ⊢
          clear c0 c1 c2 c3 f0 f1 f2 f3
          have P3 := Lib.hid (HP.out.kt (kt34 Hxr.out E3.out))
          have hbK := L3.out.kb; have hbM := L3.out.mb; have hbE := L3.out.eb'; have hbS := L3.out.sb; have hbb := L3.out.bs
          have F := Lib.hid (zz11 R (some ⟨d, 0, none⟩) w3 (fun w' => (∃ v', Lg w' K M E S 0 false base v' [⟨AN, k, cN, { data := #[] }, what, false, 5, 0⟩]) ∧ (∀ q, q ≠ M → q ≠ S → q ≠ E → q < w3.heap.size → w'.heap[q]? = w3.heap[q]?) ∧ ∀ B, B ≤ M → B ≤ S → B ≤ E → B ≤ base → Below B w3 w') ((flush5 R K M E S d base lv what AN k cN _ hle (RS3.out.to (blk_alloc_lt w3 (.cells #[.pointer (some ⟨R, 0, none⟩), .pointer none, .pointer (some ⟨d, 0, none⟩), .int .u8 0] 34) R RS3.out.lt)) (L3.out.alloc _) (P3.out.row.of_block (blk_alloc_lt w3 (.cells #[.pointer (some ⟨R, 0, none⟩), .pointer none, .pointer (some ⟨d, 0, none⟩), .int .u8 0] 34) d P3.out.row.lt)) kR ⟨by omega, by omega, by omega⟩).mono fun e w' h => ⟨h.1, h.2.1, fun q h1 h2 h3 h4 => (h.2.2.1 q h1 h2 h3 (by simp; omega)).trans (blk_alloc_lt w3 _ q h4), fun B h1 h2 h3 h4 => ((Below.refl B w3).alloc (by omega) _).trans (h.2.2.2 B h1 h2 h3 h4)⟩))
          unfold qv at F
          refine F.out.mono ?_
          rintro e w4 ⟨rfl, ⟨v4, l4⟩, far4, bel4⟩
          have x4 := (far4 w1.heap.size (by omega) (by omega) (by omega) (by omega)).trans X3.out
          have hzR := RS3.out.lt
          have RS4 := RS3.out.to (far4 R (by omega) (by omega) (by omega) hzR)
          have b4 := bel4 w.heap.size (by omega) (by omega) (by omega) (by omega)
          have B4 := Lib.hid (B3.out.trans b4)
          have E4 : Hid (∀ q, q < wr.heap.size → q ≠ w1.heap.size → w4.heap[q]? = wr.heap[q]?) := Lib.hid fun q h1 h2 => (far4 q (by omega) (by omega) (by omega) (by omega)).trans (E3.out q h1 h2)
          have g0 : w4.cell? ⟨w1.heap.size, 0, none⟩ = some (.pointer (some ⟨R, 0, none⟩)) := by simp [World.cell?, x4]
          have g1 : w4.cell? ⟨w1.heap.size, 1, none⟩ = some (.pointer none) := by simp [World.cell?, x4]
          have g2 : w4.cell? ⟨w1.heap.size, 2, none⟩ = some (.pointer (some ⟨d, 0, none⟩)) := by simp [World.cell?, x4]
          have g3 : w4.cell? ⟨w1.heap.size, 3, none⟩ = some (.int .u8 0) := by simp [World.cell?, x4]
          have LG := Lib.hid (logged13 R K M E S base lv (some ⟨d, 0, none⟩) v4 _ w4 RS4 l4 (by simp))
          unfold qv at LG
          have z4 : w3.heap.size ≤ w4.heap.size := b4.size
          clear x4 RS4 far4 bel4 b4 F l4
          go_wp2_with (fail)
          refine LG.out.mono ?_
          rintro e w5 ⟨rfl, hl5, far5, bel5⟩
          have B5 := Lib.hid (B4.out.trans (bel5 w.heap.size (by omega) B4.out.size))
          obtain ⟨g, cg, rfl, hg1, hg2, hcg⟩ := msg0 hl5
          have P5 := Lib.hid (HP.out.kt (kt34 (w' := w5) Hxr.out (fun q h1 h2 => (far5 q (by omega) (by omega)).trans (E4.out q h1 h2))))
          have h0 := hcg 0 (by omega); have h1 := hcg 1 (by omega); have h2 := hcg 2 (by omega); have h3 := hcg 3 (by omega); have h4 := hcg 4 (by omega); have h5 := hcg 5 (by omega); have h6 := hcg 6 (by omega); have h7 := hcg 7 (by omega)
          simp only [Ms.cells, List.getElem?_cons_zero, List.getElem?_cons_succ] at h0 h1 h2 h3 h4 h5 h6 h7
          have MT := Lib.hid (match14 AN k cN A c d l what 5 w5 HL.out hn P5.out.nts (Own.rd_lt P5.out.strs))
          clear hl5 far5 bel5 hcg LG
          go_wp2_with (first | (go_at_call 14; refine MT.out.mono ?_; rintro e w6 ⟨rfl, b6⟩) | fail)
          go_ret
          exact ⟨rfl, B5.out.trans (b6.mono B5.out.size)⟩
        · go_wp2_with (fail)
          generalize ((((w2.setCell ⟨w1.heap.size, 0, none⟩ (.pointer (some ⟨R, 0, none⟩))).setCell ⟨w1.heap.size, 1, none⟩ (.pointer none)).setCell ⟨w1.heap.size, 2, none⟩ (.pointer (some ⟨d, 0, none⟩))).setCell ⟨w1.heap.size, 3, none⟩ (.int .u8 0)) = w3 at X3 RS3 L3 B3 E3 z3 ⊢
          clear c0 c1 c2 c3 f0 f1 f2 f3
          have hbK := L3.out.kb; have hbM := L3.out.mb; have hbE := L3.out.eb'; have hbS := L3.out.sb; have hbb := L3.out.bs
          have F := Lib.hid (zz11 R (some ⟨d, 0, none⟩) w3 (fun w' => Below w3.heap.size w3 w') ((flushQuiet R K M E S d lv _ (by omega) (RS3.out.to (blk_alloc_lt w3 (.cells #[.pointer (some ⟨R, 0, none⟩), .pointer none, .pointer (some ⟨d, 0, none⟩), .int .u8 0] 34) R RS3.out.lt))).mono fun e w' h => ⟨h.1, ((Below.refl _ w3).alloc (Nat.le_refl _) _).trans (h.2.mono (by simp))⟩))
          unfold qv at F
          refine F.out.mono ?_
          rintro e w4 ⟨rfl, b4⟩
          have x4 := (b4.block w1.heap.size (lt_of_block X3.out)).trans X3.out
          have RS4 := Rs.to RS3.out (b4.block R (Rs.lt RS3.out))
          have L4 := L3.out.kept b4.size (fun q hq => b4.block q (by rcases hq with rfl | rfl | rfl | rfl | hq <;> first | omega | cases hq))
          have B4 := Lib.hid (B3.out.trans (b4.mono B3.out.size))
          have g0 : w4.cell? ⟨w1.heap.size, 0, none⟩ = some (.pointer (some ⟨R, 0, none⟩)) := by simp [World.cell?, x4]
          have g1 : w4.cell? ⟨w1.heap.size, 1, none⟩ = some (.pointer none) := by simp [World.cell?, x4]
          have g2 : w4.cell? ⟨w1.heap.size, 2, none⟩ = some (.pointer (some ⟨d, 0, none⟩)) := by simp [World.cell?, x4]
          have g3 : w4.cell? ⟨w1.heap.size, 3, none⟩ = some (.int .u8 0) := by simp [World.cell?, x4]
          have LG := Lib.hid (logged13 R K M E S base lv (some ⟨d, 0, none⟩) (.slice none 0 0) [] w4 RS4 L4 (by simp))
          unfold qv at LG
          clear x4 RS4 L4 b4 F
          go_wp2_with (fail)
          refine LG.out.mono ?_
          rintro e w5 ⟨rfl, hl5, far5, bel5⟩
          have B5 := Lib.hid (B4.out.trans (bel5 w.heap.size (by omega) B4.out.size))
          clear hl5 far5 bel5
          go_wp2
          go_ret
          exact ⟨rfl, B5.out⟩
set_option maxRecDepth 20000 in
theorem walk (a0 : ByteArray) (a1 : Option Addr) (len1 cap1 : Nat) (z1 : List ByteArray) (a2 : Bool) (a3 : Bool) (a4 : Int) (w : World) (w0 : a0.size ≤ maxLen) (w1 : IsStrs w a1 len1 cap1 z1) (w4 : (Lit.int .i64 a4).wf = true) :
    Calls Tryz.prog 3 #[.string a0, .slice a1 len1 cap1, .bool a2, .bool a3, .int .i64 a4] w fun e w' => e = .returned (.bool true) ∧ Below w.heap.size w w' := by
  obtain ⟨⟨l, L0, r0, m0⟩, e0, g0⟩ := rd_of_strs w1
  have hm0 : IntKind.min .i64 = -9223372036854775808 := by decide
  have hm1 : IntKind.max .i64 = 9223372036854775807 := by decide
  simp [Lit.wf, hm0, hm1] at w4
  have hy := bytes_any a0 a1 len1 cap1 l (.bool a2) (.bool a3) (.int .i64 a4) w w0 L0 g0 r0 m0
  unfold maxLen at w0 g0
  clear hm0 hm1
  by_cases hz : a0.size + (len1 + tot l) ≤ 1048576
  · have hy' : Calls Tryz.prog 4 #[.string a0, .slice a1 len1 cap1, .bool a2, .bool a3, .int .i64 a4] w (Bd True w) := hy.mono fun e w' h => by
      obtain ⟨b, h1, _, h3⟩ := h
      exact ⟨b, h1, fun _ => trivial, h3⟩
    have SM := Lib.hid (sum_any a1 len1 cap1 l w L0 (by omega) r0)
    by_cases hn : len1 ≤ 4096
    · by_cases hs : a0.size + (8 * len1 + tot l) ≤ 1048576
      · by_cases hv : 0 ≤ a4 ∧ a4 ≤ 6
        · by_cases hq : a2 = true → a4 ≤ 2
          · exact main a0 a1 len1 cap1 l a2 a3 a4 w L0 hn hs e0 r0 hv.1 hv.2 hq hy'
          · have HY := Lib.hid hy'
            obtain ⟨rfl, hq2⟩ : a2 = true ∧ ¬ a4 ≤ 2 := by
              cases a2
              · exact absurd (fun h => by cases h) hq
              · exact ⟨rfl, fun h => hq (fun _ => h)⟩
            obtain ⟨v0, v6⟩ := hv
            have hT2 : ¬ (1048576 : Int) < (a0.size : Int) + ((8 * len1 + tot l : Nat) : Int) := by omega
            obtain ⟨T, hT⟩ : ∃ T, 8 * len1 + tot l = T := ⟨_, rfl⟩
            rw [hT] at SM hT2
            have s1 : a0.size ≤ 1048576 := by omega
            clear hy hy' hz hs hT hq w1 L0 r0 m0 e0 g0
            go_enter Tryz.func3, Tryz.ntmps3
            go_wp2_with fail
            refine HY.out.mono ?_
            rintro e w' ⟨b, rfl, _, rfl⟩
            cases b
            · go_wp2
              go_ret
              exact ⟨rfl, Below.refl _ _⟩
            · go_wp2_with fail
              refine SM.out.mono ?_
              rintro e w' ⟨rfl, rfl⟩
              go_wp2
              go_ret
              exact ⟨rfl, Below.refl _ _⟩
        · have HY := Lib.hid hy'
          have hv2 : a4 < 0 ∨ (0 ≤ a4 ∧ 6 < a4) := by omega
          have hT2 : ¬ (1048576 : Int) < (a0.size : Int) + ((8 * len1 + tot l : Nat) : Int) := by omega
          obtain ⟨T, hT⟩ : ∃ T, 8 * len1 + tot l = T := ⟨_, rfl⟩
          rw [hT] at SM hT2
          have s1 : a0.size ≤ 1048576 := by omega
          clear hy hy' hz hs hT hv w1 L0 r0 m0 e0 g0
          rcases hv2 with v | ⟨v0, v⟩
          all_goals
            go_enter Tryz.func3, Tryz.ntmps3
            go_wp2_with fail
            refine HY.out.mono ?_
            rintro e w' ⟨b, rfl, _, rfl⟩
            cases b
            · go_wp2
              go_ret
              exact ⟨rfl, Below.refl _ _⟩
            · go_wp2_with fail
              refine SM.out.mono ?_
              rintro e w' ⟨rfl, rfl⟩
              go_wp2
              go_ret
              exact ⟨rfl, Below.refl _ _⟩
      · have HY := Lib.hid hy'
        have hT2 : (1048576 : Int) < (a0.size : Int) + ((8 * len1 + tot l : Nat) : Int) := by omega
        obtain ⟨T, hT⟩ : ∃ T, 8 * len1 + tot l = T := ⟨_, rfl⟩
        have hTb : T ≤ 8388608 := by omega
        rw [hT] at SM hT2
        have s1 : a0.size ≤ 1048576 := by omega
        clear hy hy' hz hs hT w1 L0 r0 m0 e0 g0
        go_enter Tryz.func3, Tryz.ntmps3
        go_wp2_with fail
        refine HY.out.mono ?_
        rintro e w' ⟨b, rfl, _, rfl⟩
        cases b
        · go_wp2
          go_ret
          exact ⟨rfl, Below.refl _ _⟩
        · go_wp2_with fail
          refine SM.out.mono ?_
          rintro e w' ⟨rfl, rfl⟩
          go_wp2
          go_ret
          exact ⟨rfl, Below.refl _ _⟩
    · have HY := Lib.hid hy'
      have d : 4096 < len1 := by omega
      have n1 : len1 ≤ 1048576 := by omega
      clear hy hy' hz hn w1 L0 r0 m0 e0 g0 SM
      go_enter Tryz.func3, Tryz.ntmps3
      go_wp2_with fail
      refine HY.out.mono ?_
      rintro e w' ⟨b, rfl, _, rfl⟩
      cases b
      · go_wp2
        go_ret
        exact ⟨rfl, Below.refl _ _⟩
      · go_wp2
        go_ret
        exact ⟨rfl, Below.refl _ _⟩
  · have H := Lib.hid hy
    have HZ := Lib.hid hz
    clear hy hz w1 L0 r0 m0 e0 g0
    go_enter Tryz.func3, Tryz.ntmps3
    go_wp2_with fail
    refine H.out.mono ?_
    rintro e w' ⟨b, rfl, hb, rfl⟩
    cases b
    · clear hb
      go_wp2
      go_ret
      exact ⟨rfl, Below.refl _ _⟩
    · exact absurd (hb rfl) HZ.out
end Go.Proofs.YtlmkgghfnfhojaaGreatDoor.fnFlushDebugLogsCaseTable
