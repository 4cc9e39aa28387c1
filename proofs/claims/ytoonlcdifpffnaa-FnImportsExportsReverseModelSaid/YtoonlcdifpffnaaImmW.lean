/- The walk of the law FnImportsExportsReverseModel: for every query and all keys and values it returns true. No condition. -/
import Derived.Test.YtoonlcdifpffnaaIeD
namespace Go.Proofs.Ytoonlcdifpffnaa.fnImportsExportsReverseModel
open Go.RowKit Go.Deep Go.Proofs.Ytoonlcdifpffnaa.Base Go.Proofs.Ytoonlcdifpffnaa.Sls Go.Proofs.Ytoonlcdifpffnaa.IeA Go.Proofs.Ytoonlcdifpffnaa.IeB Go.Proofs.Ytoonlcdifpffnaa.IeC Go.Proofs.Ytoonlcdifpffnaa.IeD
set_option linter.unusedVariables false
attribute [local go_sem ↓] Go.wp_at_zero Go.wp_at_succ
def fn (l : List ByteArray) : Nat → ByteArray := fun i => l.getD i { data := #[] }
theorem fn_at (l : List ByteArray) (k : Nat) (h : k < l.length) : fn l k = l[k] := by unfold fn; rw [List.getD_eq_getElem?_getD, List.getElem?_eq_getElem h]; rfl
theorem cells_of {w : World} {A : Option Addr} {l : List ByteArray} {n : Nat} (hl : l.length = n) (r : Rd w w.heap.size A (sv l)) : 0 < n → ∃ x, A = some x ∧ x.block < w.heap.size ∧ ∀ i, i < n → w.cell? (x.add i) = some (.string (fn l i)) := by
  intro h
  obtain ⟨x, hx, hb, hc⟩ := r (by rw [sv_len]; omega)
  exact ⟨x, hx, hb, fun i hi => by rw [fn_at l i (by omega)]; exact hc i _ (sv_at l i (by omega))⟩
set_option maxRecDepth 20000 in
set_option maxHeartbeats 2000000 in
theorem main (q : ByteArray) (A1 A2 : Option Addr) (n c1 c2 : Nat) (l1 l2 : List ByteArray) (w : World) (hn : n ≤ 4096) (L1 : l1.length = n) (L2 : l2.length = n) (r1 : Rd w w.heap.size A1 (sv l1)) (r2 : Rd w w.heap.size A2 (sv l2)) (hq : q.size ≤ 1048576) (m1 : ∀ s ∈ l1, s.size ≤ 1048576) (m2 : ∀ s ∈ l2, s.size ≤ 1048576)
    (hy : Calls Try.prog 5 #[.string q, .slice A1 n c1, .slice A2 n c2] w (Bd True w)) :
    Calls Try.prog 3 #[.string q, .slice A1 n c1, .slice A2 n c2] w fun e w' => e = .returned (.bool true) ∧ Below w.heap.size w w' := by
  have HY := Lib.hid hy
  have F6 := Lib.hid (flat6 q A1 A2 n c1 n c2 l1 l2 w (by unfold maxLen; omega) L1 L2 (by unfold maxLen; omega) (by unfold maxLen; omega) r1 r2 m1 m2)
  have R1 := Lib.hid r1; have R2 := Lib.hid r2; have HL1 := Lib.hid L1; have HL2 := Lib.hid L2; have M1 := Lib.hid m1
  obtain ⟨b, hb⟩ : ∃ b, b = Lib.hasSuffix q.data.toList star.data.toList := ⟨_, rfl⟩
  have HB := Lib.hid hb
  clear hy r1 r2 L1 L2 m1 m2 hb
  go_enter Try.func3, Try.ntmps3
  go_wp2_with (fail)
  refine HY.out.mono ?_
  rintro e w5 ⟨b5, rfl, _, rfl⟩
  go_wp2_with (fail)
  · go_ret
    exact ⟨rfl, Below.refl _ _⟩
  refine F6.out.mono ?_
  rintro e w6 ⟨b6, rfl, _, hb6⟩
  go_wp2_with (fail)
  · go_ret
    exact ⟨rfl, hb6⟩
  refine (plain7 A1 n c1 l1 w6 HL1.out hn (R1.out.later hb6) M1.out).mono ?_
  rintro e w7 ⟨b7, rfl, _, rfl⟩
  go_wp2_with (fail)
  · go_ret
    exact ⟨rfl, hb6⟩
  have OB := object_any A1 A2 n c1 c2 w6 (by omega) (fn l1) (fn l2) (cells_of HL1.out (R1.out.later hb6)) (cells_of HL2.out (R2.out.later hb6))
  refine OB.mono ?_
  rintro e w8 ⟨rfl, hr8, hb8⟩
  have HR8 := Lib.hid hr8
  have RZ := hr8.lt
  have HB8 := Lib.hid (below_join hb6 hb6.size hb8)
  have HZ8 := Lib.hid (Nat.le_trans hb6.size hb8.size)
  have HS := Lib.hid (fun w' => zz9 q (w6.heap.size + 1) n n (fn l1) (fn l2) (fun _ => 1) w' (by omega) (by omega))
  clear hr8 hb8 hb6 OB
  go_wp2_with (fail)
  refine (HS.out _ (HR8.out.alloc _)).mono ?_
  rintro e w9 ⟨j, hj, rfl, hb9⟩
  have HJ := Lib.hid hj
  have BB := Lib.hid (HB8.out.trans ((((Below.refl _ _).alloc (Nat.le_refl _) _).trans (hb9.mono (by simp only [World.size_alloc]; omega))).mono HZ8.out))
  clear hj hb9 HS HR8
  rw [← HB.out]
  have S10 := Lib.hid (fun w' => suf10 q { data := #[42] } b w' (by omega) (by decide) HB.out.symm)
  cases b
  · by_cases hlt : j < n
    · have D := decide_eq_true hlt
      rw [D]
      clear D
      have J1 := Lib.hid HJ.out.2.1
      have J2 := Lib.hid (HJ.out.2.2 hlt)
      unfold ans IeB.tok
      obtain ⟨w10, h10⟩ : ∃ w10, w10 = w9.alloc (.cells #[.int .i32 ((j : Nat) + 1), .int .i32 1] 31) := ⟨_, rfl⟩
      have BT := Lib.hid (show Below w.heap.size w w10 by rw [h10]; exact BB.out.alloc BB.out.size _)
      have T := World.rowIs_alloc w9 #[.int .i32 ((j : Nat) + 1), .int .i32 1] 31 (two ((j : Nat) + 1) 1) (fun i hi => by
        match i, hi with
        | 0, _ => rfl
        | 1, _ => rfl)
      rw [← h10] at T
      have t0 := T.cell (i := 0) (by simp)
      have t1 := T.cell (i := 1) (by simp)
      simp only [two] at t0 t1
      clear T BB
      go_wp2_with (fail)
      rw [← h10]
      clear h10
      refine (S10.out _).mono ?_
      rintro e w11 ⟨rfl, rfl⟩
      go_wp2_with (fail)
      go_loop [11, 12, 13, 14] (fun a b c i => ∃ k : Nat, k ≤ j ∧ a = .bool false ∧ b = .string { data := #[] } ∧ c = .int .i32 0 ∧ i = .int .i64 k) (fun _ _ _ i => n - (intOf i).toNat)
      case atStart => exact ⟨0, by omega, rfl, rfl, rfl, rfl⟩
      case round =>
        obtain ⟨k, hk, rfl, rfl, rfl, rfl⟩ := hrel
        by_cases hkj : k < j
        · have E := eq_toList (fn l2 k) q
          rw [decide_eq_false (fun e => J1.out k hkj e.symm)] at E
          obtain ⟨x, rfl, hxb, cx⟩ := (R2.out.below BT.out).at_ (sv_at l2 k (by rw [HL2.out]; omega))
          have ck : w10.cell? (x.add k) = some (.string (fn l2 k)) := by rw [fn_at l2 k (by rw [HL2.out]; omega)]; exact cx
          clear cx
          have kn : (k : Int) < (n : Int) := by omega
          go_wp2
          go_round
          case rel => exact ⟨k + 1, by omega, rfl, rfl, rfl, by go_num⟩
          case measure => simp [intOf]; omega
        · obtain rfl : k = j := by omega
          have E := eq_toList (fn l2 k) q
          rw [decide_eq_true J2.out.symm] at E
          obtain ⟨y, rfl, hyb, cy⟩ := (R1.out.below BT.out).at_ (sv_at l1 k (by rw [HL1.out]; omega))
          have cq : w10.cell? (y.add k) = some (.string (fn l1 k)) := by rw [fn_at l1 k (by rw [HL1.out]; omega)]; exact cy
          clear cy
          obtain ⟨x, rfl, hxb, cx⟩ := (R2.out.below BT.out).at_ (sv_at l2 k (by rw [HL2.out]; omega))
          have ck : w10.cell? (x.add k) = some (.string (fn l2 k)) := by rw [fn_at l2 k (by rw [HL2.out]; omega)]; exact cx
          clear cx
          have kn : (k : Int) < (n : Int) := by omega
          have AT := Lib.hid (fun w' => agreesT (fn l1 k) ((k : Nat) + 1) 1 w')
          go_wp2_with (first | (go_at_call 11; refine (AT.out _).mono ?_; rintro e w12 ⟨rfl, rfl⟩) | fail)
          go_ret
          exact ⟨rfl, BT.out⟩
    · have D := decide_eq_false hlt
      rw [D]
      clear D
      have hjn := HJ.out.1
      have hje : j = n := by omega
      have J1 : Hid (∀ i, i < n → q ≠ fn l2 i) := Lib.hid (fun i hi => HJ.out.2.1 i (by omega))
      clear hje hjn
      unfold ans IeB.tok
      obtain ⟨w10, h10⟩ : ∃ w10, w10 = w9.alloc (.cells #[.int .i32 0, .int .i32 0] 31) := ⟨_, rfl⟩
      have BT := Lib.hid (show Below w.heap.size w w10 by rw [h10]; exact BB.out.alloc BB.out.size _)
      have T := World.rowIs_alloc w9 #[.int .i32 0, .int .i32 0] 31 (two 0 0) (fun i hi => by
        match i, hi with
        | 0, _ => rfl
        | 1, _ => rfl)
      rw [← h10] at T
      have t0 := T.cell (i := 0) (by simp)
      have t1 := T.cell (i := 1) (by simp)
      simp only [two] at t0 t1
      clear T BB
      go_wp2_with (fail)
      rw [← h10]
      clear h10
      refine (S10.out _).mono ?_
      rintro e w11 ⟨rfl, rfl⟩
      go_wp2_with (fail)
      go_loop [11, 12, 13, 14] (fun a b c i => ∃ k : Nat, k ≤ n ∧ a = .bool false ∧ b = .string { data := #[] } ∧ c = .int .i32 0 ∧ i = .int .i64 k) (fun _ _ _ i => n - (intOf i).toNat)
      case atStart => exact ⟨0, by omega, rfl, rfl, rfl, rfl⟩
      case round =>
        obtain ⟨k, hk, rfl, rfl, rfl, rfl⟩ := hrel
        by_cases hkj : k < n
        · have E := eq_toList (fn l2 k) q
          rw [decide_eq_false (fun e => J1.out k hkj e.symm)] at E
          obtain ⟨x, rfl, hxb, cx⟩ := (R2.out.below BT.out).at_ (sv_at l2 k (by rw [HL2.out]; omega))
          have ck : w10.cell? (x.add k) = some (.string (fn l2 k)) := by rw [fn_at l2 k (by rw [HL2.out]; omega)]; exact cx
          clear cx
          have kn : (k : Int) < (n : Int) := by omega
          go_wp2
          go_round
          case rel => exact ⟨k + 1, by omega, rfl, rfl, rfl, by go_num⟩
          case measure => simp [intOf]; omega
        · obtain rfl : k = n := by omega
          have AF := Lib.hid (fun w' => agreesF { data := #[] } 0 1 w')
          go_wp2_with (first | (go_at_call 11; refine (AF.out _).mono ?_; rintro e w12 ⟨rfl, rfl⟩) | fail)
          go_ret
          exact ⟨rfl, BT.out⟩
  · unfold ans IeB.tok
    obtain ⟨w10, h10⟩ : ∃ w10, w10 = w9.alloc (.cells #[.int .i32 0, .int .i32 0] 31) := ⟨_, rfl⟩
    have BT := Lib.hid (show Below w.heap.size w w10 by rw [h10]; exact BB.out.alloc BB.out.size _)
    have T := World.rowIs_alloc w9 #[.int .i32 0, .int .i32 0] 31 (two 0 0) (fun i hi => by
      match i, hi with
      | 0, _ => rfl
      | 1, _ => rfl)
    rw [← h10] at T
    have t0 := T.cell (i := 0) (by simp)
    have t1 := T.cell (i := 1) (by simp)
    simp only [two] at t0 t1
    clear T BB
    go_wp2_with (fail)
    rw [← h10]
    clear h10
    refine (S10.out _).mono ?_
    rintro e w11 ⟨rfl, rfl⟩
    go_wp2_with (fail)
    have AF := Lib.hid (fun w' => agreesF { data := #[] } 0 1 w')
    go_wp2_with (first | (go_at_call 11; refine (AF.out _).mono ?_; rintro e w12 ⟨rfl, rfl⟩) | fail)
    go_ret
    exact ⟨rfl, BT.out⟩

set_option maxRecDepth 20000 in
set_option maxHeartbeats 1000000 in
theorem walk (a0 : ByteArray) (a1 : Option Addr) (len1 cap1 : Nat) (z1 : List ByteArray) (a2 : Option Addr) (len2 cap2 : Nat) (z2 : List ByteArray) (w : World) (w0 : a0.size ≤ maxLen) (w1 : IsStrs w a1 len1 cap1 z1) (w2 : IsStrs w a2 len2 cap2 z2) :
    Calls Try.prog 3 #[.string a0, .slice a1 len1 cap1, .slice a2 len2 cap2] w fun e w' => e = .returned (.bool true) ∧ Below w.heap.size w w' := by
  obtain ⟨⟨l1, L1, r1, m1⟩, e1, g1⟩ := rd_of_strs w1
  obtain ⟨⟨l2, L2, r2, m2⟩, e2, g2⟩ := rd_of_strs w2
  have hy := bytes_any a0 a1 len1 cap1 l1 a2 len2 cap2 l2 w w0 L1 g1 r1 m1 L2 g2 r2 m2
  by_cases hz : a0.size + (len1 + tot l1) + (len2 + tot l2) ≤ 1048576
  · have k1 : ∀ s ∈ l1, s.size ≤ 1048576 := by
      intro s hs
      obtain ⟨i, hi, rfl⟩ := List.getElem_of_mem hs
      have := tot_mem l1 i hi
      omega
    have k2 : ∀ s ∈ l2, s.size ≤ 1048576 := by
      intro s hs
      obtain ⟨i, hi, rfl⟩ := List.getElem_of_mem hs
      have := tot_mem l2 i hi
      omega
    have hy' : Calls Try.prog 5 #[.string a0, .slice a1 len1 cap1, .slice a2 len2 cap2] w (Bd True w) := hy.mono fun e w' h => by
      obtain ⟨b, h1, _, h3⟩ := h
      exact ⟨b, h1, fun _ => trivial, h3⟩
    by_cases hn : len2 = len1 ∧ len1 ≤ 4096
    · obtain ⟨rfl, hn2⟩ := hn
      exact main a0 a1 a2 len2 cap1 cap2 l1 l2 w hn2 L1 L2 r1 r2 (by omega) k1 k2 hy'
    · have HY := Lib.hid hy'
      have F6 := Lib.hid (flat6 a0 a1 a2 len1 cap1 len2 cap2 l1 l2 w w0 L1 L2 g1 g2 r1 r2 k1 k2)
      have HN := Lib.hid hn
      clear hy hy' w0 w1 w2 L1 r1 m1 e1 g1 L2 r2 m2 e2 g2 k1 k2 hz hn
      go_enter Try.func3, Try.ntmps3
      go_wp2_with fail
      refine HY.out.mono ?_
      rintro e w' ⟨b, rfl, _, rfl⟩
      go_wp2_with fail
      · go_ret
        exact ⟨rfl, Below.refl _ _⟩
      refine F6.out.mono ?_
      rintro e w6 ⟨b6, rfl, hb, hb6⟩
      cases b6
      · clear hb
        go_wp2
        go_ret
        exact ⟨rfl, hb6⟩
      · exact absurd (hb rfl) HN.out
  · have H := Lib.hid hy
    have HZ := Lib.hid hz
    clear hy hz w0 w1 w2 L1 r1 m1 e1 g1 L2 r2 m2 e2 g2
    go_enter Try.func3, Try.ntmps3
    go_wp2_with fail
    refine H.out.mono ?_
    rintro e w' ⟨b, rfl, hb, rfl⟩
    cases b
    · clear hb
      go_wp2
      go_ret
      exact ⟨rfl, Below.refl _ _⟩
    · exact absurd (hb rfl) HZ.out
end Go.Proofs.Ytoonlcdifpffnaa.fnImportsExportsReverseModel
