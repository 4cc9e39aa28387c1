/- The law FnSwapSymmetricAndInvolution: its walk. No condition. -/
import Derived.Test.YthenbnofpdjimaaSwapD
import Derived.Deep.DrawnRows
namespace Go.Proofs.Ythenbnofpdjimaa.Swap
open Go.ChangeShapes Go.WideShapes Go.ChangeAt Go.RowKit Go.Deep Go.Proofs.Ythenbnofpdjimaa.Base Go.Proofs.Ythenbnofpdjimaa.Itoa Go.Proofs.Ythenbnofpdjimaa.Keyed Go.Proofs.Ythenbnofpdjimaa.Sls
set_option linter.unusedVariables false
attribute [local go_sem ↓] Go.wp_at_zero Go.wp_at_succ
set_option maxHeartbeats 4000000 in
theorem slot_x (A len cap k : Nat) (x : Addr) (K : ByteArray) (w : World) (hk : k < len) (hl : len ≤ 65536) (hA : A < w.heap.size) (hb : x.block < w.heap.size)
    (a0 : w.cell? ⟨A, k * 10, none⟩ = some (.string K)) (a1 : w.cell? ⟨A, k * 10 + 1, none⟩ = some (.string (itoa k))) (a2 : w.cell? ⟨A, k * 10 + 2, none⟩ = some (.slice none 0 0)) (a3 : w.cell? ⟨A, k * 10 + 3, none⟩ = some (.slice none 0 0)) (a4 : w.cell? ⟨A, k * 10 + 4, none⟩ = some (.slice none 0 0)) (a5 : w.cell? ⟨A, k * 10 + 5, none⟩ = some (.int .i32 0)) (a6 : w.cell? ⟨A, k * 10 + 6, none⟩ = some (.int .i32 0)) (a7 : w.cell? ⟨A, k * 10 + 7, none⟩ = some (.int .u8 1)) (a8 : w.cell? ⟨A, k * 10 + 8, none⟩ = some (.int .i32 0)) (a9 : w.cell? ⟨A, k * 10 + 9, none⟩ = some (.int .i32 0)) (ck : w.cell? (x.add k) = some (.string K)) :
    Calls Try.prog 14 #[.slice (some ⟨A, 0, none⟩) len len, .int .i64 k, .slice (some x) len cap, .int .i64 k] w fun e w' => e = .returned (.bool true) ∧ Below w.heap.size w w' := by
  have x1 : (0 : Int) ≤ (k : Int) := by omega
  have x2 : (k : Int) < (len : Int) := by omega
  have q1 : (K.toList == K.toList) = true := by simp
  have q2 : ((itoa k).toList == (itoa k).toList) = true := by simp
  have acc : Below w.heap.size w w.drew := (Below.refl _ _).drew
  go_enter Try.func14, Try.ntmps14
  go_wp2
  go_region_held3 (fun w' => w'.cell? ⟨A, k * 10, none⟩ = some (.string K) ∧ w'.cell? ⟨A, k * 10 + 1, none⟩ = some (.string (itoa k)) ∧ w'.cell? ⟨A, k * 10 + 2, none⟩ = some (.slice none 0 0) ∧ w'.cell? ⟨A, k * 10 + 3, none⟩ = some (.slice none 0 0) ∧ w'.cell? ⟨A, k * 10 + 4, none⟩ = some (.slice none 0 0) ∧ w'.cell? ⟨A, k * 10 + 5, none⟩ = some (.int .i32 0) ∧ w'.cell? ⟨A, k * 10 + 6, none⟩ = some (.int .i32 0) ∧ w'.cell? ⟨A, k * 10 + 7, none⟩ = some (.int .u8 1) ∧ w'.cell? ⟨A, k * 10 + 8, none⟩ = some (.int .i32 0) ∧ w'.cell? ⟨A, k * 10 + 9, none⟩ = some (.int .i32 0) ∧ w'.cell? (x.add k) = some (.string K))
    (first | go_keep | (go_split_ands; refine ⟨?_, ?_, ?_, ?_, ?_, ?_, ?_, ?_, ?_, ?_, ?_⟩ <;> first | (rw [bcell acc (by assumption)]; assumption) | (rw [acc.cell (by rw [add_block]; exact hb)]; assumption)))
    ((first | (go_at_call 27; refine (key_any _ _ _).mono ?_; rintro e w1 ⟨rfl, hb1⟩; have acc := below_join acc acc.size hb1; clear hb1) | (go_at_call 28; refine (value_any _ _ _).mono ?_; rintro e w2 ⟨rfl, hb2⟩; have acc := below_join acc acc.size hb2; clear hb2) | (go_at_call 19; refine (str_any _ _).mono ?_; rintro e w3 ⟨rfl, hb3⟩; have acc := below_join acc acc.size hb3; clear hb3) | (go_at_call 23; refine (itoa_any _ _ (by omega)).mono ?_; rintro e w4 ⟨rfl, hb4⟩; have acc := below_join acc acc.size hb4; clear hb4)))
  have ACC := Lib.hid acc
  clear acc
  go_wp2
  go_ret
  exact ⟨rfl, ACC.out⟩
end Go.Proofs.Ythenbnofpdjimaa.Swap
namespace Go.Proofs.Ythenbnofpdjimaa.fnSwapSymmetricAndInvolution
open Go.ChangeShapes Go.WideShapes Go.ChangeAt Go.RowKit Go.Deep Go.Proofs.Ythenbnofpdjimaa.Base Go.Proofs.Ythenbnofpdjimaa.Itoa Go.Proofs.Ythenbnofpdjimaa.Keyed Go.Proofs.Ythenbnofpdjimaa.Sls Go.Proofs.Ythenbnofpdjimaa.Swap
set_option linter.unusedVariables false
theorem same_row (A B n i j k : Nat) (ks : Nat → ByteArray) (w : World) (hn : n ≤ 65536) (hi : i < n) (hj : j < n) (hk : k < n) (hA : w.rowIs A 49 (n * 10) (swp i j (ents ks n))) (hB : w.rowIs B 49 (n * 10) (swp j i (ents ks n))) :
    Calls Try.prog 13 #[.slice (some ⟨A, 0, none⟩) n n, .slice (some ⟨B, 0, none⟩) n n, .int .i64 k] w fun e w' => e = .returned (.bool true) ∧ Below w.heap.size w w' :=
  same_any A B n k (ks (pm i j k)) (itoa (pm i j k)) w hk hn hA.lt hB.lt
    (by rw [hA.cell (i := k * 10) (by omega)]; exact congrArg some (swp_at ks n i j k 0 hi hj hk (by omega))) (by rw [hA.cell (i := k * 10 + 1) (by omega)]; exact congrArg some (swp_at ks n i j k 1 hi hj hk (by omega))) (by rw [hA.cell (i := k * 10 + 2) (by omega)]; exact congrArg some (swp_at ks n i j k 2 hi hj hk (by omega))) (by rw [hA.cell (i := k * 10 + 3) (by omega)]; exact congrArg some (swp_at ks n i j k 3 hi hj hk (by omega))) (by rw [hA.cell (i := k * 10 + 4) (by omega)]; exact congrArg some (swp_at ks n i j k 4 hi hj hk (by omega))) (by rw [hA.cell (i := k * 10 + 5) (by omega)]; exact congrArg some (swp_at ks n i j k 5 hi hj hk (by omega))) (by rw [hA.cell (i := k * 10 + 6) (by omega)]; exact congrArg some (swp_at ks n i j k 6 hi hj hk (by omega))) (by rw [hA.cell (i := k * 10 + 7) (by omega)]; exact congrArg some (swp_at ks n i j k 7 hi hj hk (by omega))) (by rw [hA.cell (i := k * 10 + 8) (by omega)]; exact congrArg some (swp_at ks n i j k 8 hi hj hk (by omega))) (by rw [hA.cell (i := k * 10 + 9) (by omega)]; exact congrArg some (swp_at ks n i j k 9 hi hj hk (by omega)))
    (by rw [hB.cell (i := k * 10) (by omega)]; exact congrArg some ((swp_at ks n j i k 0 hj hi hk (by omega)).trans (by rw [pm_comm j i k]; rfl))) (by rw [hB.cell (i := k * 10 + 1) (by omega)]; exact congrArg some ((swp_at ks n j i k 1 hj hi hk (by omega)).trans (by rw [pm_comm j i k]; rfl))) (by rw [hB.cell (i := k * 10 + 2) (by omega)]; exact congrArg some ((swp_at ks n j i k 2 hj hi hk (by omega)).trans (by rw [pm_comm j i k]; rfl))) (by rw [hB.cell (i := k * 10 + 3) (by omega)]; exact congrArg some ((swp_at ks n j i k 3 hj hi hk (by omega)).trans (by rw [pm_comm j i k]; rfl))) (by rw [hB.cell (i := k * 10 + 4) (by omega)]; exact congrArg some ((swp_at ks n j i k 4 hj hi hk (by omega)).trans (by rw [pm_comm j i k]; rfl))) (by rw [hB.cell (i := k * 10 + 5) (by omega)]; exact congrArg some ((swp_at ks n j i k 5 hj hi hk (by omega)).trans (by rw [pm_comm j i k]; rfl))) (by rw [hB.cell (i := k * 10 + 6) (by omega)]; exact congrArg some ((swp_at ks n j i k 6 hj hi hk (by omega)).trans (by rw [pm_comm j i k]; rfl))) (by rw [hB.cell (i := k * 10 + 7) (by omega)]; exact congrArg some ((swp_at ks n j i k 7 hj hi hk (by omega)).trans (by rw [pm_comm j i k]; rfl))) (by rw [hB.cell (i := k * 10 + 8) (by omega)]; exact congrArg some ((swp_at ks n j i k 8 hj hi hk (by omega)).trans (by rw [pm_comm j i k]; rfl))) (by rw [hB.cell (i := k * 10 + 9) (by omega)]; exact congrArg some ((swp_at ks n j i k 9 hj hi hk (by omega)).trans (by rw [pm_comm j i k]; rfl)))
theorem slot_row (A n cap k : Nat) (x : Addr) (ks : Nat → ByteArray) (w : World) (hn : n ≤ 65536) (hk : k < n) (hA : w.rowIs A 49 (n * 10) (ents ks n)) (hx : x.block < w.heap.size) (ck : w.cell? (x.add k) = some (.string (ks k))) :
    Calls Try.prog 14 #[.slice (some ⟨A, 0, none⟩) n n, .int .i64 k, .slice (some x) n cap, .int .i64 k] w fun e w' => e = .returned (.bool true) ∧ Below w.heap.size w w' :=
  slot_x A n cap k x (ks k) w hk hn hA.lt hx
    (by rw [hA.cell (i := k * 10) (by omega)]; exact congrArg some (ents_at ks n k 0 hk (by omega))) (by rw [hA.cell (i := k * 10 + 1) (by omega)]; exact congrArg some (ents_at ks n k 1 hk (by omega))) (by rw [hA.cell (i := k * 10 + 2) (by omega)]; exact congrArg some (ents_at ks n k 2 hk (by omega))) (by rw [hA.cell (i := k * 10 + 3) (by omega)]; exact congrArg some (ents_at ks n k 3 hk (by omega))) (by rw [hA.cell (i := k * 10 + 4) (by omega)]; exact congrArg some (ents_at ks n k 4 hk (by omega))) (by rw [hA.cell (i := k * 10 + 5) (by omega)]; exact congrArg some (ents_at ks n k 5 hk (by omega))) (by rw [hA.cell (i := k * 10 + 6) (by omega)]; exact congrArg some (ents_at ks n k 6 hk (by omega))) (by rw [hA.cell (i := k * 10 + 7) (by omega)]; exact congrArg some (ents_at ks n k 7 hk (by omega))) (by rw [hA.cell (i := k * 10 + 8) (by omega)]; exact congrArg some (ents_at ks n k 8 hk (by omega))) (by rw [hA.cell (i := k * 10 + 9) (by omega)]; exact congrArg some (ents_at ks n k 9 hk (by omega))) ck
set_option maxHeartbeats 1000000 in
theorem in_range (a0 : Option Addr) (n c i j : Nat) (l : List ByteArray) (w : World) (L0 : l.length = n) (hz : n + tot l ≤ 1048576) (hn : n ≤ 65536) (hi : i < n) (hj : j < n) (r0 : Rd w w.heap.size a0 (sv l))
    (Y : Calls Try.prog 10 #[.slice a0 n c, .int .i64 i, .int .i64 j] w (Bd (n + tot l ≤ 1048576) w)) :
    Calls Try.prog 4 #[.slice a0 n c, .int .i64 i, .int .i64 j] w fun e w' => e = .returned (.bool true) ∧ Below w.heap.size w w' := by
  have HY := Lib.hid Y
  have SB := Lib.hid (strBytes a0 n c l w L0 hz r0)
  obtain ⟨ks, hks⟩ : ∃ ks : Nat → ByteArray, ks = fun i => l.getD i ByteArray.empty := ⟨_, rfl⟩
  obtain ⟨x, rfl, hxb, hxc⟩ : ∃ x, a0 = some x ∧ x.block < w.heap.size ∧ ∀ k, k < n → w.cell? (x.add k) = some (.string (ks k)) := by
    obtain ⟨x, hx, hb, hc⟩ := r0 (by rw [sv_len, L0]; omega)
    refine ⟨x, hx, hb, fun k hk => hc k _ ?_⟩
    rw [sv_at l k (by omega), hks]; simp [List.getD, show k < l.length by omega]
  have HXC := Lib.hid hxc
  have K1 := Lib.hid (keyed_x (some x) n c w hn ks (fun _ => ⟨x, rfl, hxb, hxc⟩))
  have K2 := Lib.hid (fun (W : World) (hb : Below w.heap.size w W) => keyed_x (some x) n c W hn ks (fun _ => ⟨x, rfl, Nat.lt_of_lt_of_le hxb hb.size, fun k hk => by rw [hb.cell (by rw [add_block]; exact hxb)]; exact hxc k hk⟩))
  clear Y r0 hxc hks
  have HL := Lib.hid L0; clear L0
  have hii : ¬ ((i : Int) < 0) := by omega
  have hjj : ¬ ((j : Int) < 0) := by omega
  have di : decide ((i : Int) < 0) = false := by simp
  have dj : decide ((j : Int) < 0) = false := by simp
  have di2 : decide ((n : Int) ≤ (i : Int)) = false := by simp; omega
  have dj2 : decide ((n : Int) ≤ (j : Int)) = false := by simp; omega
  go_enter Try.func4, Try.ntmps4
  go_wp2_with fail
  refine HY.out.mono ?_
  rintro e w' ⟨b, rfl, hb, rfl⟩
  clear hb
  cases b
  · go_wp2
    go_ret
    exact ⟨rfl, Below.refl _ _⟩
  go_wp2_with fail
  refine SB.out.mono ?_
  rintro e w' ⟨t, rfl, ht, rfl⟩
  clear ht
  by_cases hbig : 1048576 < t
  · go_wp2
    go_ret
    exact ⟨rfl, Below.refl _ _⟩
  go_wp2_with fail
  refine K1.out.mono ?_
  rintro e w1 ⟨rfl, R1, b1⟩
  have C2 := Lib.hid (K2.out w1 b1)
  have HR1 := Lib.hid R1; have HB1 := Lib.hid b1
  clear R1 b1
  go_wp2_with fail
  refine C2.out.mono ?_
  rintro e w2 ⟨rfl, R2, b2⟩
  have R12 := row_keep HR1.out b2 (Nat.le_refl _)
  have HB2 := Lib.hid (below_join HB1.out HB1.out.size b2)
  have z1 : w.heap.size < w1.heap.size := HR1.out.lt
  have SW1 := Lib.hid (swap_in w.heap.size n i j _ w2 hn hi hj R12 (ents_one ks n))
  have HR2 := Lib.hid R2
  clear R12 R2 b2
  go_wp2_with fail
  refine SW1.out.mono ?_
  rintro e w3 ⟨rfl, RA, G3, Z3⟩
  have RB := HR2.out.of_block (G3.block _ HR2.out.lt (by intro e; injection e with e; omega))
  have SW2 := Lib.hid (swap_in w1.heap.size n j i _ w3 hn hj hi RB (ents_one ks n))
  have HB3 := Lib.hid (HB2.out.grown G3 HB2.out.size (fun g hg => by injection hg with hg; omega))
  have HRA := Lib.hid RA
  clear RA RB G3 Z3
  go_wp2_with fail
  refine SW2.out.mono ?_
  rintro e w4 ⟨rfl, RB, G4, Z4⟩
  have RA := HRA.out.of_block (G4.block _ HRA.out.lt (by intro e; injection e with e; omega))
  have HB4 := Lib.hid (HB3.out.grown G4 HB3.out.size (fun g hg => by injection hg with hg; omega))
  have HRA4 := Lib.hid RA; have HRB4 := Lib.hid RB
  clear RA RB G4 Z4
  go_wp2
  go_loopw [9] (fun v wr => ∃ k : Nat, k ≤ n ∧ v = .int .i64 k ∧ Below w4.heap.size w4 wr) (fun v _ => n - (intOf v).toNat)
  case atStart => exact ⟨0, by omega, rfl, Below.refl _ _⟩
  case round =>
    obtain ⟨k, hk, rfl, hbel⟩ := hrel
    by_cases hlt : k < n
    · have S := Lib.hid (same_row w.heap.size w1.heap.size n i j k ks wr hn hi hj hlt (row_keep HRA4.out hbel (Nat.le_refl _)) (row_keep HRB4.out hbel (Nat.le_refl _)))
      have HB := Lib.hid hbel
      clear hbel
      go_wp2_with fail
      refine S.out.mono ?_
      rintro e w5 ⟨rfl, hb5⟩
      have HB5 := Lib.hid (below_join HB.out HB.out.size hb5)
      clear hb5
      go_wp2
      go_roundw
      case rel => exact ⟨k + 1, by omega, by go_num, HB5.out⟩
      case measure => simp [intOf]; omega
    · obtain rfl : k = n := by omega
      have RA5 := row_keep HRA4.out hbel (Nat.le_refl _)
      have SW3 := Lib.hid (swap_in w.heap.size k i j _ wr hn hi hj RA5 (swp_one _ i j (ents_one ks k)))
      have HB5 := Lib.hid (HB4.out.trans (hbel.mono HB4.out.size))
      obtain ⟨w5, rfl⟩ : ∃ wo : World, wo = wr := ⟨_, rfl⟩
      clear RA5 hbel
      go_wp2_with fail
      refine SW3.out.mono ?_
      rintro e w6 ⟨rfl, RA6, G6, Z6⟩
      have RA := Lib.hid (RA6.congr (fun c _ => swp_swp (ents ks k) i j c))
      have HB6 := Lib.hid (HB5.out.grown G6 HB5.out.size (fun g hg => by injection hg with hg; omega))
      clear RA6 G6 Z6
      go_wp2
      go_loopw [10] (fun v wr => ∃ q : Nat, q ≤ k ∧ v = .int .i64 q ∧ Below w6.heap.size w6 wr) (fun v _ => k - (intOf v).toNat)
      case atStart => exact ⟨0, by omega, rfl, Below.refl _ _⟩
      case round =>
        obtain ⟨q, hq, rfl, hbel⟩ := hrel
        have BW := HB6.out.trans (hbel.mono HB6.out.size)
        by_cases hlt : q < k
        · have S := Lib.hid (slot_row w.heap.size k c q x ks wr hn hlt (row_keep RA.out hbel (Nat.le_refl _)) (Nat.lt_of_lt_of_le hxb BW.size) (by rw [BW.cell (by rw [add_block]; exact hxb)]; exact HXC.out q hlt))
          have HB := Lib.hid hbel
          clear hbel BW
          go_wp2_with fail
          refine S.out.mono ?_
          rintro e w7 ⟨rfl, hb7⟩
          have HB7 := Lib.hid (below_join HB.out HB.out.size hb7)
          clear hb7
          go_wp2
          go_roundw
          case rel => exact ⟨q + 1, by omega, by go_num, HB7.out⟩
          case measure => simp [intOf]; omega
        · have HBW := Lib.hid BW
          clear hbel BW
          go_wp2
          go_ret
          exact ⟨rfl, HBW.out⟩
theorem walk (a0 : Option Addr) (len0 cap0 : Nat) (z0 : List ByteArray) (a1 : Int) (a2 : Int) (w : World) (w0 : IsStrs w a0 len0 cap0 z0) (w1 : (Lit.int .i64 a1).wf = true) (w2 : (Lit.int .i64 a2).wf = true) :
    Calls Try.prog 4 #[.slice a0 len0 cap0, .int .i64 a1, .int .i64 a2] w fun e w' => e = .returned (.bool true) ∧ Below w.heap.size w w' := by
  obtain ⟨⟨l0, L0, r0, m0⟩, e0, g0⟩ := rd_of_strs w0
  have hy := bytes10 a0 len0 cap0 l0 (.int .i64 a1) (.int .i64 a2) w L0 g0 r0 m0
  clear w1 w2 w0
  by_cases hz : len0 + tot l0 ≤ 1048576
  · by_cases hr : len0 ≤ 65536 ∧ 0 ≤ a1 ∧ a1 < len0 ∧ 0 ≤ a2 ∧ a2 < len0
    · obtain ⟨hn, p1, p2, p3, p4⟩ := hr
      obtain ⟨i, rfl⟩ := Int.eq_ofNat_of_zero_le p1
      obtain ⟨j, rfl⟩ := Int.eq_ofNat_of_zero_le p3
      exact in_range a0 len0 cap0 i j l0 w L0 hz hn (by omega) (by omega) r0 hy
    · have HY := Lib.hid hy
      have SB := Lib.hid (strBytes a0 len0 cap0 l0 w L0 hz r0)
      have HR := Lib.hid hr
      clear hy L0 r0 m0 e0 g0 hz hr
      go_enter Try.func4, Try.ntmps4
      go_wp2_with fail
      refine HY.out.mono ?_
      rintro e w' ⟨b, rfl, hb, rfl⟩
      clear hb
      cases b
      · go_wp2
        go_ret
        exact ⟨rfl, Below.refl _ _⟩
      go_wp2_with fail
      refine SB.out.mono ?_
      rintro e w' ⟨t, rfl, ht, rfl⟩
      by_cases hbig : 1048576 < t
      · clear ht
        go_wp2
        go_ret
        exact ⟨rfl, Below.refl _ _⟩
      · have hn := ht (by omega)
        have hor : a1 < 0 ∨ (len0 : Int) ≤ a1 ∨ a2 < 0 ∨ (len0 : Int) ≤ a2 := by
          have := HR.out
          omega
        clear ht
        by_cases d1 : a1 < 0
        · clear hor
          go_wp2
          go_ret
          exact ⟨rfl, Below.refl _ _⟩
        · by_cases d2 : (len0 : Int) ≤ a1
          · clear hor
            go_wp2
            go_ret
            exact ⟨rfl, Below.refl _ _⟩
          · by_cases d3 : a2 < 0
            · clear hor
              go_wp2
              go_ret
              exact ⟨rfl, Below.refl _ _⟩
            · have d4 : (len0 : Int) ≤ a2 := by omega
              clear hor
              go_wp2
              go_ret
              exact ⟨rfl, Below.refl _ _⟩
  · have H := Lib.hid hy
    have HZ := Lib.hid hz
    clear hy hz L0 r0 m0 e0 g0
    go_enter Try.func4, Try.ntmps4
    go_wp2_with fail
    refine H.out.mono ?_
    rintro e w' ⟨b, rfl, hb, rfl⟩
    cases b
    · clear hb
      go_wp2
      go_ret
      exact ⟨rfl, Below.refl _ _⟩
    · exact absurd (hb rfl) HZ.out
end Go.Proofs.Ythenbnofpdjimaa.fnSwapSymmetricAndInvolution
