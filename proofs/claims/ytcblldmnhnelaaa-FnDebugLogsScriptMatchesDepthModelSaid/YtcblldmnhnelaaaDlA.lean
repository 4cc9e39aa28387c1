/- The law over scripts of debug logs: its bounds, its clones and addNote by contracts. Conditions: at most 4096 steps and texts. -/
import Derived.Test.YtcblldmnhnelaaaLogs
import Derived.Test.YtcblldmnhnelaaaSls
import Derived.Deep.AppendLies
namespace Go.Proofs.Ytcblldmnhnelaaa.Dl
open Go.ChangeShapes Go.WideShapes Go.ChangeAt Go.RowKit Go.Deep Go.Proofs.Ytcblldmnhnelaaa.Base Go.Proofs.Ytcblldmnhnelaaa.Logs Go.Proofs.Ytcblldmnhnelaaa.Sls
set_option linter.unusedVariables false
/-- If it says yes, what the arguments lead to is short. -/
theorem bytes5 (A0 : Option Addr) (n0 c0 : Nat) (A1 : Option Addr) (n1 c1 : Nat) (l1 : List ByteArray) (w : World) (hn0 : n0 ≤ maxLen) (hl1 : l1.length = n1) (hn1 : n1 ≤ maxLen) (hr1 : Rd w w.heap.size A1 (sv l1)) (hs1 : ∀ s ∈ l1, s.size ≤ maxLen) :
    Calls Try.prog 5 #[.slice A0 n0 c0, .slice A1 n1 c1] w (Bd (n0 + (n1 + tot l1) ≤ 1048576) w) := by
  unfold maxLen at hn0
  unfold maxLen at hn1
  have HL1 := Lib.hid hl1; have HR1 := Lib.hid hr1; have HS1 := Lib.hid hs1
  clear hl1 hr1 hs1
  go_enter Try.func5, Try.ntmps5
  go_wp2
  all_goals try (go_ret; exact ⟨false, rfl, (fun h => by cases h), rfl⟩)
  go_loop [5, 6] (fun z i => ∃ k m : Nat, k ≤ n1 ∧ m ≤ 1048576 ∧ i = .int .i64 k ∧ z = .int .i64 m ∧ Hid (m = n0 + n1 + tot (l1.take k))) (fun _ i => n1 - (intOf i).toNat)
  case atStart => exact ⟨0, n0 + n1, by omega, by omega, rfl, by go_num, Lib.hid rfl⟩
  case round =>
    obtain ⟨k1, m1, hk1, hm1, rfl, rfl, E1⟩ := hrel
    by_cases hlt1 : k1 < n1
    · have hkl : k1 < l1.length := by rw [HL1.out]; exact hlt1
      obtain ⟨x, rfl, hxb, cx⟩ := HR1.out.at_ (sv_at l1 k1 hkl)
      have hz := HS1.out _ (List.getElem_mem hkl)
      unfold maxLen at hz
      have TS := Lib.hid (tot_step l1 k1 hkl)
      obtain ⟨s, hs⟩ : ∃ s, s = l1[k1] := ⟨_, rfl⟩
      rw [← hs] at cx hz
      have HS := Lib.hid hs
      clear hs
      go_wp2
      all_goals try (go_ret; exact ⟨false, rfl, (fun h => by cases h), rfl⟩)
      go_round
      case rel => exact ⟨k1 + 1, m1 + s.size, by omega, by omega, by go_num, by go_num, Lib.hid (by have := E1.out; have := TS.out; rw [← HS.out] at this; omega)⟩
      case measure => simp [intOf]; omega
    · obtain rfl : k1 = n1 := by omega
      go_wp2
      all_goals first | (go_ret; exact ⟨false, rfl, (fun h => by cases h), rfl⟩) | skip
      go_ret
      exact ⟨true, rfl, (fun _ => by have := E1.out; rw [List.take_of_length_le (by rw [HL1.out]; omega)] at this; omega), rfl⟩
theorem infoB : (Try.prog.info? 5).map (fun i => (i.zero, i.size, i.bytes)) = some (some (.int .u8 0), 1, 1) := by kernel_rfl
def copB (l : List UInt8) (k i : Nat) : Value := if i < k then (bv l).getD i (.int .u8 0) else .int .u8 0
theorem copB_step (l : List UInt8) (k : Nat) (u : Value) (h : (bv l)[k]? = some u) (i : Nat) : (if i = k then u else copB l k i) = copB l (k + 1) i := by
  unfold copB
  by_cases hi : i = k
  · subst hi; rw [if_pos rfl, if_pos (by omega), List.getD_eq_getElem?_getD, h]; rfl
  · rw [if_neg hi]
    by_cases h2 : i < k
    · rw [if_pos h2, if_pos (by omega)]
    · rw [if_neg h2, if_neg (by omega)]
theorem cloneB_nil (w : World) : Calls Try.prog 8 #[.slice none 0 0] w fun e w' => e = .returned (.slice none 0 0) ∧ w = w' := by
  have hnl := fun (W : World) (a : Option Addr) (n c : Nat) => Lib.run_eql_slice_nil (P := Try.prog) W 22 5 a n c 0 0 Try.underlying22
  go_enter Try.func8, Try.ntmps8
  go_wp2
  go_ret
  exact ⟨rfl, rfl⟩
theorem cloneB_some (x : Addr) (n c : Nat) (l : List UInt8) (w : World) (hl : l.length = n) (hn : n ≤ 4096) (hr : Rd w w.heap.size (some x) (bv l)) :
    Calls Try.prog 8 #[.slice (some x) n c] w fun e w' => e = .returned (.slice (some ⟨w.heap.size, 0, none⟩) n n) ∧ Own w' w.heap.size 5 (.slice (some ⟨w.heap.size, 0, none⟩) n n) (bv l) ∧ Below w.heap.size w w' := by
  have hmk := fun W => run_make_row' (P := Try.prog) 22 5 (.int .u8 0) 1 Try.underlying22 infoB rfl .i64 .i64 n (by omega) (by omega) W
  have HL := Lib.hid hl; clear hl
  have HRd := Lib.hid hr; clear hr
  have hnl := fun (W : World) (a : Option Addr) (n c : Nat) => Lib.run_eql_slice_nil (P := Try.prog) W 22 5 a n c 0 0 Try.underlying22
  go_enter Try.func8, Try.ntmps8
  go_wp2
  clear hmk hnl
  go_loopw [4] (fun i wr => ∃ k : Nat, k ≤ n ∧ i = .int .i64 k ∧ wr.rowIs w.heap.size 5 n (copB l k) ∧ Below w.heap.size w wr) (fun i _ => n - (intOf i).toNat)
  case atStart => exact ⟨0, by omega, rfl, (World.rowIs_made w (.int .u8 0) n 5).congr (fun i _ => by unfold copB; rw [if_neg (by omega)]), (Below.refl _ _).alloc (Nat.le_refl _) _⟩
  case round =>
    obtain ⟨k, hk, rfl, HR, hbel⟩ := hrel
    by_cases hlt : k < n
    · have hkl : k < l.length := by rw [HL.out]; exact hlt
      obtain ⟨y, hy, hb, hc⟩ := HRd.out.at_ (bv_at l k hkl)
      injection hy with hy; subst hy
      have cx := (hbel.cell (p := x.add k) (by rw [add_block]; exact hb)).trans hc
      have cw := HR.cell (i := k) hlt
      have fw := HR.frozen k
      have R2 := Lib.hid ((HR.set k _).congr (fun i _ => copB_step l k _ (bv_at l k hkl) i))
      have B2 := Lib.hid (hbel.setCell (p := ⟨w.heap.size, k, none⟩) (Nat.le_refl _) (.int .u8 (l[k].toNat : Int)))
      obtain ⟨q, hq⟩ : ∃ q, q = (l[k].toNat : Int) := ⟨_, rfl⟩
      rw [← hq] at cx R2 B2
      clear HR hbel hq hb hc
      go_wp2
      go_roundw
      case rel => exact ⟨k + 1, by omega, by go_num, R2.out, B2.out⟩
      case measure => simp [intOf]; omega
    · have hkn : k = n := by omega
      subst hkn
      have R2 := Lib.hid HR
      have B2 := Lib.hid hbel
      clear HR hbel
      go_wp2
      go_ret
      refine ⟨rfl, ?_, B2.out⟩
      have e1 : (bv l).length = k := by rw [bv_len, HL.out]
      refine Own.of_row (R2.out) e1 (fun i hi => ?_) (Nat.le_refl _) (by unfold maxLen; omega)
      unfold copB
      rw [if_pos hi, List.getD_eq_getElem?_getD, List.getElem?_eq_getElem (by omega)]; rfl
def ClB (n : Nat) (l : List UInt8) (w : World) (e : Ending) (w' : World) : Prop := ∃ A' c', e = .returned (.slice A' n c') ∧ Own w' w.heap.size 5 (.slice A' n c') (bv l) ∧ Below w.heap.size w w'
theorem cloneB (A : Option Addr) (n c : Nat) (l : List UInt8) (w : World) (hl : l.length = n) (hn : n ≤ 4096) (hnil : A = none → n = 0 ∧ c = 0) (hr : Rd w w.heap.size A (bv l)) : Calls Try.prog 8 #[.slice A n c] w (ClB n l w) := by
  rcases A with _ | x
  · obtain ⟨rfl, rfl⟩ := hnil rfl
    obtain rfl : l = [] := List.eq_nil_of_length_eq_zero hl
    refine (cloneB_nil w).mono ?_
    rintro e w' ⟨rfl, rfl⟩
    exact ⟨none, 0, rfl, Own.nil _ _ _, Below.refl _ _⟩
  · refine (cloneB_some x n c l w hl hn hr).mono ?_
    rintro e w' ⟨rfl, h1, h2⟩
    exact ⟨_, _, rfl, h1, h2⟩
theorem infoS : (Try.prog.info? 9).map (fun i => (i.zero, i.size, i.bytes)) = some (some (.string { data := #[] }), 1, 16) := by kernel_rfl
def copS (l : List ByteArray) (k i : Nat) : Value := if i < k then (sv l).getD i (.string { data := #[] }) else .string { data := #[] }
theorem copS_step (l : List ByteArray) (k : Nat) (u : Value) (h : (sv l)[k]? = some u) (i : Nat) : (if i = k then u else copS l k i) = copS l (k + 1) i := by
  unfold copS
  by_cases hi : i = k
  · subst hi; rw [if_pos rfl, if_pos (by omega), List.getD_eq_getElem?_getD, h]; rfl
  · rw [if_neg hi]
    by_cases h2 : i < k
    · rw [if_pos h2, if_pos (by omega)]
    · rw [if_neg h2, if_neg (by omega)]
theorem cloneS_nil (w : World) : Calls Try.prog 9 #[.slice none 0 0] w fun e w' => e = .returned (.slice none 0 0) ∧ w = w' := by
  have hnl := fun (W : World) (a : Option Addr) (n c : Nat) => Lib.run_eql_slice_nil (P := Try.prog) W 23 9 a n c 0 0 Try.underlying23
  go_enter Try.func9, Try.ntmps9
  go_wp2
  go_ret
  exact ⟨rfl, rfl⟩
theorem cloneS_some (x : Addr) (n c : Nat) (l : List ByteArray) (w : World) (hl : l.length = n) (hn : n ≤ 4096) (hr : Rd w w.heap.size (some x) (sv l)) :
    Calls Try.prog 9 #[.slice (some x) n c] w fun e w' => e = .returned (.slice (some ⟨w.heap.size, 0, none⟩) n n) ∧ Own w' w.heap.size 9 (.slice (some ⟨w.heap.size, 0, none⟩) n n) (sv l) ∧ Below w.heap.size w w' := by
  have hmk := fun W => run_make_row' (P := Try.prog) 23 9 (.string { data := #[] }) 16 Try.underlying23 infoS rfl .i64 .i64 n (by omega) (by omega) W
  have HL := Lib.hid hl; clear hl
  have HRd := Lib.hid hr; clear hr
  have hnl := fun (W : World) (a : Option Addr) (n c : Nat) => Lib.run_eql_slice_nil (P := Try.prog) W 23 9 a n c 0 0 Try.underlying23
  go_enter Try.func9, Try.ntmps9
  go_wp2
  clear hmk hnl
  go_loopw [4] (fun i wr => ∃ k : Nat, k ≤ n ∧ i = .int .i64 k ∧ wr.rowIs w.heap.size 9 n (copS l k) ∧ Below w.heap.size w wr) (fun i _ => n - (intOf i).toNat)
  case atStart => exact ⟨0, by omega, rfl, (World.rowIs_made w (.string { data := #[] }) n 9).congr (fun i _ => by unfold copS; rw [if_neg (by omega)]), (Below.refl _ _).alloc (Nat.le_refl _) _⟩
  case round =>
    obtain ⟨k, hk, rfl, HR, hbel⟩ := hrel
    by_cases hlt : k < n
    · have hkl : k < l.length := by rw [HL.out]; exact hlt
      obtain ⟨y, hy, hb, hc⟩ := HRd.out.at_ (sv_at l k hkl)
      injection hy with hy; subst hy
      have cx := (hbel.cell (p := x.add k) (by rw [add_block]; exact hb)).trans hc
      have cw := HR.cell (i := k) hlt
      have fw := HR.frozen k
      have R2 := Lib.hid ((HR.set k _).congr (fun i _ => copS_step l k _ (sv_at l k hkl) i))
      have B2 := Lib.hid (hbel.setCell (p := ⟨w.heap.size, k, none⟩) (Nat.le_refl _) (.string l[k]))
      obtain ⟨q, hq⟩ : ∃ q, q = l[k] := ⟨_, rfl⟩
      rw [← hq] at cx R2 B2
      clear HR hbel hq hb hc
      go_wp2
      go_roundw
      case rel => exact ⟨k + 1, by omega, by go_num, R2.out, B2.out⟩
      case measure => simp [intOf]; omega
    · have hkn : k = n := by omega
      subst hkn
      have R2 := Lib.hid HR
      have B2 := Lib.hid hbel
      clear HR hbel
      go_wp2
      go_ret
      refine ⟨rfl, ?_, B2.out⟩
      have e1 : (sv l).length = k := by rw [sv_len, HL.out]
      refine Own.of_row (R2.out) e1 (fun i hi => ?_) (Nat.le_refl _) (by unfold maxLen; omega)
      unfold copS
      rw [if_pos hi, List.getD_eq_getElem?_getD, List.getElem?_eq_getElem (by omega)]; rfl
def ClS (n : Nat) (l : List ByteArray) (w : World) (e : Ending) (w' : World) : Prop := ∃ A' c', e = .returned (.slice A' n c') ∧ Own w' w.heap.size 9 (.slice A' n c') (sv l) ∧ Below w.heap.size w w'
theorem cloneS (A : Option Addr) (n c : Nat) (l : List ByteArray) (w : World) (hl : l.length = n) (hn : n ≤ 4096) (hnil : A = none → n = 0 ∧ c = 0) (hr : Rd w w.heap.size A (sv l)) : Calls Try.prog 9 #[.slice A n c] w (ClS n l w) := by
  rcases A with _ | x
  · obtain ⟨rfl, rfl⟩ := hnil rfl
    obtain rfl : l = [] := List.eq_nil_of_length_eq_zero hl
    refine (cloneS_nil w).mono ?_
    rintro e w' ⟨rfl, rfl⟩
    exact ⟨none, 0, rfl, Own.nil _ _ _, Below.refl _ _⟩
  · refine (cloneS_some x n c l w hl hn hr).mono ?_
    rintro e w' ⟨rfl, h1, h2⟩
    exact ⟨_, _, rfl, h1, h2⟩
theorem sum_any (A : Option Addr) (n c : Nat) (l : List ByteArray) (w : World) (hl : l.length = n) (hn : n + tot l ≤ 1048576) (hr : Rd w w.heap.size A (sv l)) :
    Calls Try.prog 6 #[.slice A n c] w fun e w' => e = .returned (.int .i64 ((8 * n + tot l : Nat) : Int)) ∧ w = w' := by
  have HL := Lib.hid hl; have HR := Lib.hid hr
  clear hl hr
  have hn1 : n ≤ 1048576 := by omega
  obtain ⟨T, hT⟩ : ∃ T, T = tot l := ⟨_, rfl⟩
  rw [← hT] at hn ⊢
  have HT := Lib.hid hT
  clear hT
  go_enter Try.func6, Try.ntmps6
  go_wp2
  go_loop [3, 4] (fun z i => ∃ k m : Nat, k ≤ n ∧ m ≤ 16777216 ∧ i = .int .i64 k ∧ z = .int .i64 m ∧ Hid (m = 8 * n + tot (l.take k))) (fun _ i => n - (intOf i).toNat)
  case atStart => exact ⟨0, 8 * n, by omega, by omega, rfl, by go_num, Lib.hid rfl⟩
  case round =>
    obtain ⟨k, m, hk, hm, rfl, rfl, E⟩ := hrel
    by_cases hlt : k < n
    · have hkl : k < l.length := by rw [HL.out]; exact hlt
      obtain ⟨x, rfl, hxb, cx⟩ := HR.out.at_ (sv_at l k hkl)
      have TS := Lib.hid (tot_step l k hkl)
      have hz : l[k].size ≤ 1048576 ∧ m + l[k].size ≤ 16777216 := by
        have := TS.out; have := tot_le l (k + 1); have := HT.out; have := E.out; omega
      obtain ⟨s, hs⟩ : ∃ s, s = l[k] := ⟨_, rfl⟩
      rw [← hs] at cx hz
      have HS := Lib.hid hs
      obtain ⟨hz1, hz2⟩ := hz
      clear hs
      go_wp2
      go_round
      case rel => exact ⟨k + 1, m + s.size, by omega, by omega, by go_num, by go_num, Lib.hid (by have := E.out; have := TS.out; rw [← HS.out] at this; omega)⟩
      case measure => simp [intOf]; omega
    · obtain rfl : k = n := by omega
      have e : m = 8 * k + T := by
        have := E.out; rw [List.take_of_length_le (by rw [HL.out]; omega)] at this; rw [this, HT.out]
      have EE := Lib.hid e
      clear e
      go_wp2
      go_ret
      exact ⟨ret_int (by have := EE.out; omega), rfl⟩
theorem unfold_any (A : Option Addr) (n c : Nat) (l : List UInt8) (w : World) (hl : l.length = n) (hn : n ≤ 4096) (hr : Rd w w.heap.size A (bv l)) :
    Calls Try.prog 7 #[.slice A n c] w fun e w' => (∃ t : Int, e = .returned (.int .i64 t)) ∧ w = w' := by
  have HL := Lib.hid hl; have HR := Lib.hid hr
  clear hl hr
  go_enter Try.func7, Try.ntmps7
  go_wp2
  go_loop [3, 4, 5] (fun d z i => ∃ k m p : Nat, k ≤ n ∧ p ≤ k ∧ m ≤ 8192 * k ∧ d = .int .i64 p ∧ z = .int .i64 m ∧ i = .int .i64 k) (fun _ _ i => n - (intOf i).toNat)
  case atStart => exact ⟨0, 0, 0, by omega, by omega, by omega, rfl, rfl, rfl⟩
  case round =>
    obtain ⟨k, m, p, hk, hp, hm, rfl, rfl, rfl⟩ := hrel
    by_cases hlt : k < n
    · have hkl : k < l.length := by rw [HL.out]; exact hlt
      obtain ⟨x, rfl, hxb, cx⟩ := HR.out.at_ (bv_at l k hkl)
      have hu := UInt8.toNat_lt l[k]
      generalize l[k].toNat = u at cx hu
      have r3 : (u : Int) % 3 = 0 ∨ (u : Int) % 3 = 1 ∨ (u : Int) % 3 = 2 := by omega
      rcases r3 with h | h | h
      · have e0 : ((u : Int) % 3 == 0) = true := by rw [h]; rfl
        clear h
        go_wp2
        go_round
        case rel => exact ⟨k + 1, m + 2 * p, p, by omega, by omega, by omega, by go_num, by go_num, by go_num⟩
        case measure => simp [intOf]; omega
      · have e0 : ((u : Int) % 3 == 0) = false := by rw [h]; rfl
        have e1 : ((u : Int) % 3 == 1) = true := by rw [h]; rfl
        clear h
        go_wp2
        go_round
        case rel => exact ⟨k + 1, m, p + 1, by omega, by omega, by omega, by go_num, by go_num, by go_num⟩
        case measure => simp [intOf]; omega
      · have e0 : ((u : Int) % 3 == 0) = false := by rw [h]; rfl
        have e1 : ((u : Int) % 3 == 1) = false := by rw [h]; rfl
        clear h
        by_cases hp0 : 0 < p
        · go_wp2
          go_round
          case rel => exact ⟨k + 1, m, p - 1, by omega, by omega, by omega, by go_num, by go_num, by go_num⟩
          case measure => simp [intOf]; omega
        · go_wp2
          go_round
          case rel => exact ⟨k + 1, m, p, by omega, by omega, by omega, by go_num, by go_num, by go_num⟩
          case measure => simp [intOf]; omega
    · go_wp2
      go_ret
      exact ⟨⟨_, rfl⟩, rfl⟩
end Go.Proofs.Ytcblldmnhnelaaa.Dl
