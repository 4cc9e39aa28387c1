/- The helpers of the laws by contracts: counts, suffixes, the guards, the comparison; the exported reverse resolve. Conditions: lengths. -/
import Derived.Test.YtoonlcdifpffnaaIeC
import Derived.IntWalk
namespace Go.Proofs.Ytoonlcdifpffnaa.IeD
open Go.RowKit Go.Deep Go.Proofs.Ytoonlcdifpffnaa.Base Go.Proofs.Ytoonlcdifpffnaa.Sls Go.Proofs.Ytoonlcdifpffnaa.IeA Go.Proofs.Ytoonlcdifpffnaa.IeB Go.Proofs.Ytoonlcdifpffnaa.IeC
set_option linter.unusedVariables false
attribute [local go_sem ↓] Go.wp_at_zero Go.wp_at_succ
theorem count_snoc (s : ByteArray) (c : UInt8) (k : Nat) (h : k < s.size) : (s.data.toList.take (k + 1)).count c = (s.data.toList.take k).count c + if s[k] = c then 1 else 0 := by
  rw [List.take_succ_eq_append_getElem (by simpa using h), get_list s k h, List.count_append]
  by_cases e : s[k] = c <;> simp [e]
def cntB (c : UInt8) (s : ByteArray) : Nat := s.data.toList.count c
theorem count_any13 (c : UInt8) (s : ByteArray) (w : World) (hs : s.size ≤ 9223372036854775807) :
    Calls Try.prog 13 #[.string s, .int .u8 (c.toNat : Int)] w fun e w' => e = .returned (.int .i64 (cntB c s)) ∧ w = w' := by
  obtain ⟨b, hb⟩ : ∃ b : Int, b = cntB c s := ⟨_, rfl⟩
  rw [← hb]
  unfold cntB at hb
  have HB := Lib.hid hb; clear hb
  go_enter Try.func13, Try.ntmps13
  go_wp2
  go_loop [5, 6] (fun n i => ∃ k m : Nat, k ≤ s.size ∧ m ≤ k ∧ Hid ((s.data.toList.take k).count c = m) ∧ n = .int .i64 m ∧ i = .int .i64 k) (fun _ i => s.size - (intOf i).toNat)
  case atStart => exact ⟨0, 0, by omega, by omega, Lib.hid (by simp), rfl, rfl⟩
  case round =>
    obtain ⟨k, m, hk, hm, HK, rfl, rfl⟩ := hrel
    by_cases hlt : k < s.size
    · have hsn := count_snoc s c k hlt
      by_cases hc : s[k] = c
      · have hc1 : ((s[k].toNat : Int) == (c.toNat : Int)) = true := by rw [hc]; simp
        have HK2 := Lib.hid (show (s.data.toList.take (k + 1)).count c = m + 1 by rw [hsn, HK.out, if_pos hc])
        clear hc hsn
        go_wp2
        go_round
        case rel => exact ⟨k + 1, m + 1, by omega, by omega, HK2, by go_num, by go_num⟩
        case measure => simp [intOf]; omega
      · have hc1 : ((s[k].toNat : Int) == (c.toNat : Int)) = false := by
          rw [beq_eq_false_iff_ne]; intro h; exact hc (UInt8.toNat_inj.1 (by omega))
        have HK2 := Lib.hid (show (s.data.toList.take (k + 1)).count c = m by rw [hsn, HK.out, if_neg hc]; rfl)
        clear hc hsn
        go_wp2
        go_round
        case rel => exact ⟨k + 1, m, by omega, by omega, HK2, by go_num, by go_num⟩
        case measure => simp [intOf]; omega
    · have H1 := Lib.hid (show s.data.toList.count c = m by
        have e := HK.out
        rw [List.take_of_length_le (by rw [len_list]; omega)] at e; exact e)
      go_wp2
      go_ret
      exact ⟨ret_int (by rw [HB.out, H1.out]), rfl⟩
theorem suf10 (s p : ByteArray) (b : Bool) (w : World) (hs : s.size ≤ 9223372036854775807) (hp : p.size ≤ 9223372036854775807) (hb : Lib.hasSuffix s.data.toList p.data.toList = b) :
    Calls Try.prog 10 #[.string s, .string p] w fun e w' => e = .returned (.bool b) ∧ w = w' := by
  have E := Lib.hasSuffix_raw s p
  rw [hb] at E
  by_cases h : p.size ≤ s.size
  · rw [decide_eq_true h, Bool.true_and] at E
    clear hb
    go_enter Try.func10, Try.ntmps10
    go_wp2
    go_ret
    exact ⟨rfl, rfl⟩
  · rw [decide_eq_false h, Bool.false_and] at E
    have HB := Lib.hid E
    clear hb E
    go_enter Try.func10, Try.ntmps10
    go_wp2
    go_ret
    exact ⟨ret_bool HB.out, rfl⟩
theorem agreesT (s : ByteArray) (x y : Int) (w : World) :
    Calls Try.prog 11 #[.bool true, .string s, .int .i32 x, .int .i32 y, .bool true, .string s, .int .i32 x, .int .i32 y] w fun e w' => e = .returned (.bool true) ∧ w = w' := by
  go_enter Try.func11, Try.ntmps11
  go_wp2
  go_ret
  exact ⟨by simp, rfl⟩
theorem agreesF (s : ByteArray) (x y : Int) (w : World) :
    Calls Try.prog 11 #[.bool false, .string { data := #[] }, .int .i32 0, .int .i32 0, .bool false, .string s, .int .i32 x, .int .i32 y] w fun e w' => e = .returned (.bool true) ∧ w = w' := by
  go_enter Try.func11, Try.ntmps11
  go_wp2
  go_ret
  exact ⟨by simp, rfl⟩
/-- If it says yes, what the arguments lead to is short. -/
theorem bytes_any (s0 : ByteArray) (A1 : Option Addr) (n1 c1 : Nat) (l1 : List ByteArray) (A2 : Option Addr) (n2 c2 : Nat) (l2 : List ByteArray) (w : World) (hs0 : s0.size ≤ maxLen) (hl1 : l1.length = n1) (hn1 : n1 ≤ maxLen) (hr1 : Rd w w.heap.size A1 (sv l1)) (hs1 : ∀ s ∈ l1, s.size ≤ maxLen) (hl2 : l2.length = n2) (hn2 : n2 ≤ maxLen) (hr2 : Rd w w.heap.size A2 (sv l2)) (hs2 : ∀ s ∈ l2, s.size ≤ maxLen) :
    Calls Try.prog 5 #[.string s0, .slice A1 n1 c1, .slice A2 n2 c2] w (Bd (s0.size + (n1 + tot l1) + (n2 + tot l2) ≤ 1048576) w) := by
  unfold maxLen at hs0
  unfold maxLen at hn1
  have HL1 := Lib.hid hl1; have HR1 := Lib.hid hr1; have HS1 := Lib.hid hs1
  clear hl1 hr1 hs1
  unfold maxLen at hn2
  have HL2 := Lib.hid hl2; have HR2 := Lib.hid hr2; have HS2 := Lib.hid hs2
  clear hl2 hr2 hs2
  go_enter Try.func5, Try.ntmps5
  go_wp2
  all_goals try (go_ret; exact ⟨false, rfl, (fun h => by cases h), rfl⟩)
  go_loop [7, 8] (fun z i => ∃ k m : Nat, k ≤ n1 ∧ m ≤ 1048576 ∧ i = .int .i64 k ∧ z = .int .i64 m ∧ Hid (m = s0.size + n1 + tot (l1.take k))) (fun _ i => n1 - (intOf i).toNat)
  case atStart => exact ⟨0, s0.size + n1, by omega, by omega, rfl, by go_num, Lib.hid rfl⟩
  case round =>
    obtain ⟨k1, m1, hk1, hm1, rfl, rfl, E1⟩ := hrel
    by_cases hlt1 : k1 < n1
    · have hkl : k1 < l1.length := by rw [HL1.out]; exact hlt1
      obtain ⟨x, rfl, hxb, cx⟩ := HR1.out.at_ (sv_at l1 k1 hkl)
      have hz := HS1.out _ (List.getElem_mem hkl)
      unfold maxLen at hz
      have TS := Lib.hid (tot_step l1 k1 hkl)
      obtain ⟨s, hs⟩ : ∃ s, s = l1[k1] := ⟨_, rfl⟩
      rw [← hs] at cx hz
      have HS := Lib.hid hs
      clear hs
      go_wp2
      all_goals try (go_ret; exact ⟨false, rfl, (fun h => by cases h), rfl⟩)
      go_round
      case rel => exact ⟨k1 + 1, m1 + s.size, by omega, by omega, by go_num, by go_num, Lib.hid (by have := E1.out; have := TS.out; rw [← HS.out] at this; omega)⟩
      case measure => simp [intOf]; omega
    · obtain rfl : k1 = n1 := by omega
      go_wp2
      all_goals try (go_ret; exact ⟨false, rfl, (fun h => by cases h), rfl⟩)
      go_loop [7, 9] (fun z i => ∃ k m : Nat, k ≤ n2 ∧ m ≤ 1048576 ∧ i = .int .i64 k ∧ z = .int .i64 m ∧ Hid (m = m1 + n2 + tot (l2.take k))) (fun _ i => n2 - (intOf i).toNat)
      case atStart => exact ⟨0, m1 + n2, by omega, by omega, rfl, by go_num, Lib.hid rfl⟩
      case round =>
        obtain ⟨k2, m2, hk2, hm2, rfl, rfl, E2⟩ := hrel
        by_cases hlt2 : k2 < n2
        · have hkl : k2 < l2.length := by rw [HL2.out]; exact hlt2
          obtain ⟨x, rfl, hxb, cx⟩ := HR2.out.at_ (sv_at l2 k2 hkl)
          have hz := HS2.out _ (List.getElem_mem hkl)
          unfold maxLen at hz
          have TS := Lib.hid (tot_step l2 k2 hkl)
          obtain ⟨s, hs⟩ : ∃ s, s = l2[k2] := ⟨_, rfl⟩
          rw [← hs] at cx hz
          have HS := Lib.hid hs
          clear hs
          go_wp2
          all_goals try (go_ret; exact ⟨false, rfl, (fun h => by cases h), rfl⟩)
          go_round
          case rel => exact ⟨k2 + 1, m2 + s.size, by omega, by omega, by go_num, by go_num, Lib.hid (by have := E2.out; have := TS.out; rw [← HS.out] at this; omega)⟩
          case measure => simp [intOf]; omega
        · obtain rfl : k2 = n2 := by omega
          go_wp2
          all_goals first | (go_ret; exact ⟨false, rfl, (fun h => by cases h), rfl⟩) | skip
          go_ret
          exact ⟨true, rfl, (fun _ => by have := E1.out; rw [List.take_of_length_le (by rw [HL1.out]; omega)] at this; have := E2.out; rw [List.take_of_length_le (by rw [HL2.out]; omega)] at this; omega), rfl⟩
set_option maxRecDepth 20000 in
theorem zz9 (q : ByteArray) (B n cap : Nat) (ks vs : Nat → ByteArray) (lf : Nat → Int) (w : World) (hn : n ≤ 65537) (hq : q.size ≤ 9223372036854775807) (hr : w.rowIs B 43 (n * 10) (entt ks vs lf n)) :
    Calls Try.prog 9 #[.string q, .agg #[.string { data := #[] }, .slice none 0 0, .slice (some ⟨B, 0, none⟩) n cap, .slice none 0 0, .int .i32 0, .int .i32 0, .int .u8 3], .map none] w (Pst q ks vs lf n w) := by
  have C := Lib.hid (fun (w' : World) (h : w'.rowIs B 43 (n * 10) (entt ks vs lf n)) => reverse17 q B n cap ks vs lf w' hn hq h)
  have HR := Lib.hid hr
  clear hr
  go_enter Try.func9, Try.ntmps9
  go_wp2_with (fail)
  refine (C.out _ ((HR.out.alloc _).alloc _)).mono ?_
  rintro e w2 ⟨j, hj, rfl, hb⟩
  have P2 : w2.rowIs (w.heap.size + 1) 31 2 (two 0 0) := row_below (by have := row2 (w.alloc (.cells #[.string { data := #[] }, .slice none 0 0, .slice (some ⟨B, 0, none⟩) n cap, .slice none 0 0, .int .i32 0, .int .i32 0, .int .u8 3] 34)); rw [World.size_alloc] at this; exact this) hb (by simp only [World.size_alloc]; omega)
  have B2 := (((Below.refl w.heap.size w).alloc (Nat.le_refl _) _).alloc (by simp only [World.size_alloc]; omega) _).trans (hb.mono (by simp only [World.size_alloc]; omega))
  have HJ := Lib.hid hj
  obtain ⟨b, h1⟩ : ∃ b, b = (!(Lib.hasSuffix q.data.toList star.data.toList) && decide (j < n)) := ⟨_, rfl⟩
  rw [← h1]
  have H1 := Lib.hid h1
  unfold ans IeB.tok
  obtain ⟨kk, h2⟩ : ∃ kk, kk = (if b then ks j else { data := #[] }) := ⟨_, rfl⟩
  obtain ⟨x, h3⟩ : ∃ x, x = (if b then ((j : Nat) : Int) + 1 else 0) := ⟨_, rfl⟩
  obtain ⟨y, h4⟩ : ∃ y, y = (if b then lf j else 0) := ⟨_, rfl⟩
  rw [← h2, ← h3, ← h4]
  have H2 := Lib.hid h2; have H3 := Lib.hid h3; have H4 := Lib.hid h4
  have d0 := P2.cell (i := 0) (by omega)
  have d1 := P2.cell (i := 1) (by omega)
  have g0 := P2.frozen 0
  have g1 := P2.frozen 1
  simp only [two] at d0 d1
  have HP := Lib.hid P2
  have HB := Lib.hid B2
  clear hj h1 h2 h3 h4 P2 B2 hb
  go_wp2
  have S2 := (HP.out.set 0 (.int .i32 x)).set 1 (.int .i32 y)
  have s0 := S2.cell (i := 0) (by omega)
  have s1 := S2.cell (i := 1) (by omega)
  simp at s0 s1
  have B7 := bset2 HB.out (Nat.le_succ w.heap.size) (.int .i32 x) (.int .i32 y)
  exact bodyPost_ret (v := .tuple #[.bool b, .string kk, .agg #[.int .i32 x, .int .i32 y]]) (by simp [results, Try.results9, go_sem, s0, s1]) rfl ⟨j, HJ.out, by rw [← H1.out, H2.out, H3.out, H4.out]; rfl, B7⟩
def Bq (P : Prop) (w : World) (e : Ending) (w' : World) : Prop := ∃ b : Bool, e = .returned (.bool b) ∧ (b = true → P) ∧ Below w.heap.size w w'
set_option maxHeartbeats 1000000 in
theorem flat6 (q : ByteArray) (A1 A2 : Option Addr) (n1 c1 n2 c2 : Nat) (l1 l2 : List ByteArray) (w : World) (hq : q.size ≤ maxLen) (L1 : l1.length = n1) (L2 : l2.length = n2) (g1 : n1 ≤ maxLen) (g2 : n2 ≤ maxLen) (r1 : Rd w w.heap.size A1 (sv l1)) (r2 : Rd w w.heap.size A2 (sv l2)) (m1 : ∀ s ∈ l1, s.size ≤ 1048576) (m2 : ∀ s ∈ l2, s.size ≤ 1048576) :
    Calls Try.prog 6 #[.string q, .slice A1 n1 c1, .slice A2 n2 c2] w (Bq (n2 = n1 ∧ n1 ≤ 4096) w) := by
  unfold maxLen at hq g1 g2
  by_cases hh : q.size ≤ 1048576 ∧ n1 ≤ 4096 ∧ n2 = n1
  · obtain ⟨h1, h2, h3⟩ := hh
    subst h3
    have HL1 := Lib.hid L1; have HL2 := Lib.hid L2; have R1 := Lib.hid r1; have R2 := Lib.hid r2; have M1 := Lib.hid m1; have M2 := Lib.hid m2
    clear L1 L2 r1 r2 m1 m2
    go_enter Try.func6, Try.ntmps6
    go_wp2
    go_loopw [7, 8] (fun t i wr => ∃ k m : Nat, k ≤ n2 ∧ m ≤ 1048576 ∧ t = .int .i64 m ∧ i = .int .i64 k ∧ Below w.heap.size w wr) (fun _ i _ => n2 - (intOf i).toNat)
    case atStart => exact ⟨0, q.size, by omega, h1, rfl, rfl, Below.refl _ _⟩
    case round =>
      obtain ⟨k, m, hk, hm, rfl, rfl, hb⟩ := hrel
      by_cases hlt : k < n2
      · have k1 : k < l1.length := by rw [HL1.out]; exact hlt
        have k2 : k < l2.length := by rw [HL2.out]; exact hlt
        obtain ⟨x, rfl, hxb, cx⟩ := (R1.out.below hb).at_ (sv_at l1 k k1)
        obtain ⟨y, rfl, hyb, cy⟩ := (R2.out.below hb).at_ (sv_at l2 k k2)
        have z1 := M1.out _ (List.getElem_mem k1)
        have z2 := M2.out _ (List.getElem_mem k2)
        obtain ⟨s, hs⟩ : ∃ s, s = l1[k] := ⟨_, rfl⟩
        obtain ⟨t, ht⟩ : ∃ t, t = l2[k] := ⟨_, rfl⟩
        rw [← hs] at cx z1
        rw [← ht] at cy z2
        have HB := Lib.hid hb
        clear hs ht hb
        go_wp2
        go_quiet (fail)
        go_wp2
        all_goals first | (go_ret; exact ⟨false, rfl, fun h => (by cases h), below_draws HB.out _⟩) | skip
        go_roundw
        case rel => exact ⟨k + 1, m + (32 + s.size + t.size), by omega, by omega, by go_num, by go_num, below_draws HB.out _⟩
        case measure => simp [intOf]; omega
      · obtain rfl : k = n2 := by omega
        have HB := Lib.hid hb
        clear hb
        go_wp2
        go_ret
        exact ⟨true, rfl, fun _ => (by first | trivial | exact ⟨rfl, h2⟩ | exact ⟨trivial, h2⟩), HB.out⟩
  · have hc : 1048576 < q.size ∨ (q.size ≤ 1048576 ∧ 4096 < n1) ∨ (q.size ≤ 1048576 ∧ n1 ≤ 4096 ∧ n2 ≠ n1) := by omega
    clear hh L1 L2 r1 r2 m1 m2
    rcases hc with h | ⟨h, h'⟩ | ⟨h, h', h2⟩
    · go_enter Try.func6, Try.ntmps6
      go_wp2
      all_goals (go_ret; exact ⟨false, rfl, fun h => (by cases h), Below.refl _ _⟩)
    · go_enter Try.func6, Try.ntmps6
      go_wp2
      all_goals (go_ret; exact ⟨false, rfl, fun h => (by cases h), Below.refl _ _⟩)
    · have h3 : ((n2 : Int) != (n1 : Int)) = true := by rw [bne_iff_ne]; omega
      go_enter Try.func6, Try.ntmps6
      go_wp2
      all_goals (go_ret; exact ⟨false, rfl, fun h => (by cases h), Below.refl _ _⟩)
theorem plain7 (A1 : Option Addr) (n1 c1 : Nat) (l1 : List ByteArray) (w : World) (L1 : l1.length = n1) (g1 : n1 ≤ 4096) (r1 : Rd w w.heap.size A1 (sv l1)) (m1 : ∀ s ∈ l1, s.size ≤ 1048576) :
    Calls Try.prog 7 #[.slice A1 n1 c1] w (Bd True w) := by
  have HL1 := Lib.hid L1; have R1 := Lib.hid r1; have M1 := Lib.hid m1
  have CC := Lib.hid (fun (s : ByteArray) (h : s.size ≤ 9223372036854775807) => count_any13 42 s w h)
  have SS := Lib.hid (fun (s : ByteArray) (h : s.size ≤ 9223372036854775807) => suf10 s { data := #[47] } _ w h (by decide) rfl)
  clear L1 r1 m1
  go_enter Try.func7, Try.ntmps7
  go_wp2
  go_loop [3] (fun i => ∃ k : Nat, k ≤ n1 ∧ i = .int .i64 k) (fun i => n1 - (intOf i).toNat)
  case atStart => exact ⟨0, by omega, rfl⟩
  case round =>
    obtain ⟨k, hk, rfl⟩ := hrel
    by_cases hlt : k < n1
    · have k1 : k < l1.length := by rw [HL1.out]; exact hlt
      obtain ⟨x, rfl, hxb, cx⟩ := R1.out.at_ (sv_at l1 k k1)
      have z1 := M1.out _ (List.getElem_mem k1)
      obtain ⟨s, hs⟩ : ∃ s, s = l1[k] := ⟨_, rfl⟩
      rw [← hs] at cx z1
      clear hs
      have C13 := Lib.hid (CC.out s (by omega))
      have S10 := Lib.hid (SS.out s (by omega))
      go_wp2_with (first | (go_at_call 13; refine C13.out.mono ?_; rintro e w7 ⟨rfl, rfl⟩) | (go_at_call 10; refine S10.out.mono ?_; rintro e w8 ⟨rfl, rfl⟩))
      all_goals first | (go_ret; exact ⟨false, rfl, fun _ => trivial, rfl⟩) | exact ⟨⟨k + 1, by omega, by go_num⟩, by simp [intOf]; omega⟩
    · obtain rfl : k = n1 := by omega
      go_wp2
      go_ret
      exact ⟨true, rfl, fun _ => trivial, rfl⟩
end Go.Proofs.Ytoonlcdifpffnaa.IeD
