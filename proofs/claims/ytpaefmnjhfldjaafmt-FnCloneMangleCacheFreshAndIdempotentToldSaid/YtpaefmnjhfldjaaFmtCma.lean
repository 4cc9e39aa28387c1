/- The caches' builder, copies and bounds, by their contracts. Conditions: lengths of at most 2^20. -/
import Derived.Test.YtpaefmnjhfldjaaFmtMpd
import Derived.Test.YtpaefmnjhfldjaaFmtCls
namespace Go.Proofs.YtpaefmnjhfldjaaFmt.Cma
open Go.RowKit Go.Maps Go.Deep Go.ChangeMaps Go.MapKept Go.Proofs.YtpaefmnjhfldjaaFmt.Base Go.Proofs.YtpaefmnjhfldjaaFmt.Sls Go.Proofs.YtpaefmnjhfldjaaFmt.Cls Go.Proofs.YtpaefmnjhfldjaaFmt.Mps Go.Proofs.YtpaefmnjhfldjaaFmt.Mpd
set_option linter.unusedVariables false
/-- If it says yes, what the arguments lead to is short. -/
theorem bytes4 (x0 : Value) (A1 : Option Addr) (n1 c1 : Nat) (l1 : List ByteArray) (A2 : Option Addr) (n2 c2 : Nat) (l2 : List ByteArray) (A3 : Option Addr) (n3 c3 : Nat) (w : World) (hl1 : l1.length = n1) (hn1 : n1 ≤ maxLen) (hr1 : Rd w w.heap.size A1 (sv l1)) (hs1 : ∀ s ∈ l1, s.size ≤ maxLen) (hl2 : l2.length = n2) (hn2 : n2 ≤ maxLen) (hr2 : Rd w w.heap.size A2 (sv l2)) (hs2 : ∀ s ∈ l2, s.size ≤ maxLen) (hn3 : n3 ≤ maxLen) :
    Calls Tryf.prog 4 #[x0, .slice A1 n1 c1, .slice A2 n2 c2, .slice A3 n3 c3] w (Bd ((n1 + tot l1) + (n2 + tot l2) + n3 ≤ 1048576) w) := by
  unfold maxLen at hn1
  have HL1 := Lib.hid hl1; have HR1 := Lib.hid hr1; have HS1 := Lib.hid hs1
  clear hl1 hr1 hs1
  unfold maxLen at hn2
  have HL2 := Lib.hid hl2; have HR2 := Lib.hid hr2; have HS2 := Lib.hid hs2
  clear hl2 hr2 hs2
  unfold maxLen at hn3
  go_enter Tryf.func4, Tryf.ntmps4
  go_wp2
  all_goals try (go_ret; exact ⟨false, rfl, (fun h => by cases h), rfl⟩)
  go_loop [9, 10] (fun z i => ∃ k m : Nat, k ≤ n1 ∧ m ≤ 1048576 ∧ i = .int .i64 k ∧ z = .int .i64 m ∧ Hid (m = n1 + tot (l1.take k))) (fun _ i => n1 - (intOf i).toNat)
  case atStart => exact ⟨0, n1, by omega, by omega, rfl, by go_num, Lib.hid rfl⟩
  case round =>
    obtain ⟨k1, m1, hk1, hm1, rfl, rfl, E1⟩ := hrel
    by_cases hlt1 : k1 < n1
    · have hkl : k1 < l1.length := by rw [HL1.out]; exact hlt1
      obtain ⟨x, rfl, hxb, cx⟩ := HR1.out.at_ (sv_at l1 k1 hkl)
      have hz := HS1.out _ (List.getElem_mem hkl)
      unfold maxLen at hz
      have TS := Lib.hid (tot_step l1 k1 hkl)
      obtain ⟨s, hs⟩ : ∃ s, s = l1[k1] := ⟨_, rfl⟩
      rw [← hs] at cx hz
      have HS := Lib.hid hs
      clear hs
      go_wp2
      all_goals try (go_ret; exact ⟨false, rfl, (fun h => by cases h), rfl⟩)
      go_round
      case rel => exact ⟨k1 + 1, m1 + s.size, by omega, by omega, by go_num, by go_num, Lib.hid (by have := E1.out; have := TS.out; rw [← HS.out] at this; omega)⟩
      case measure => simp [intOf]; omega
    · obtain rfl : k1 = n1 := by omega
      go_wp2
      all_goals try (go_ret; exact ⟨false, rfl, (fun h => by cases h), rfl⟩)
      go_loop [9, 11] (fun z i => ∃ k m : Nat, k ≤ n2 ∧ m ≤ 1048576 ∧ i = .int .i64 k ∧ z = .int .i64 m ∧ Hid (m = m1 + n2 + tot (l2.take k))) (fun _ i => n2 - (intOf i).toNat)
      case atStart => exact ⟨0, m1 + n2, by omega, by omega, rfl, by go_num, Lib.hid rfl⟩
      case round =>
        obtain ⟨k2, m2, hk2, hm2, rfl, rfl, E2⟩ := hrel
        by_cases hlt2 : k2 < n2
        · have hkl : k2 < l2.length := by rw [HL2.out]; exact hlt2
          obtain ⟨x, rfl, hxb, cx⟩ := HR2.out.at_ (sv_at l2 k2 hkl)
          have hz := HS2.out _ (List.getElem_mem hkl)
          unfold maxLen at hz
          have TS := Lib.hid (tot_step l2 k2 hkl)
          obtain ⟨s, hs⟩ : ∃ s, s = l2[k2] := ⟨_, rfl⟩
          rw [← hs] at cx hz
          have HS := Lib.hid hs
          clear hs
          go_wp2
          all_goals try (go_ret; exact ⟨false, rfl, (fun h => by cases h), rfl⟩)
          go_round
          case rel => exact ⟨k2 + 1, m2 + s.size, by omega, by omega, by go_num, by go_num, Lib.hid (by have := E2.out; have := TS.out; rw [← HS.out] at this; omega)⟩
          case measure => simp [intOf]; omega
        · obtain rfl : k2 = n2 := by omega
          go_wp2
          all_goals first | (go_ret; exact ⟨false, rfl, (fun h => by cases h), rfl⟩) | skip
          go_ret
          exact ⟨true, rfl, (fun _ => by have := E1.out; rw [List.take_of_length_le (by rw [HL1.out]; omega)] at this; have := E2.out; rw [List.take_of_length_le (by rw [HL2.out]; omega)] at this; omega), rfl⟩

/-- A sum, not too great. -/
def Sm (w : World) (e : Ending) (w' : World) : Prop := ∃ m : Nat, e = .returned (.int .i64 m) ∧ w = w'
theorem sum5 (A : Option Addr) (n c : Nat) (l : List ByteArray) (B : Option Addr) (m d : Nat) (k_ : List ByteArray) (C : Option Addr) (q e0 : Nat) (w : World) (hl : l.length = n) (hn : n ≤ 1048576) (hs : ∀ s ∈ l, s.size ≤ 1048576) (hr : Rd w w.heap.size A (sv l))
    (hk : k_.length = m) (hm : m ≤ 1048576) (ht : ∀ s ∈ k_, s.size ≤ 1048576) (hq : Rd w w.heap.size B (sv k_)) (hb : q ≤ 1048576) :
    Calls Tryf.prog 5 #[.slice A n c, .slice B m d, .slice C q e0] w (Sm w) := by
  have HL := Lib.hid hl; have HR := Lib.hid hr; have HS := Lib.hid hs
  have HK := Lib.hid hk; have HQ := Lib.hid hq; have HT := Lib.hid ht
  clear hl hr hs hk hq ht
  go_enter Tryf.func5, Tryf.ntmps5
  go_wp2
  go_loop [7, 8] (fun z i => ∃ k m : Nat, k ≤ n ∧ m ≤ 33554432 ∧ i = .int .i64 k ∧ z = .int .i64 m) (fun _ i => n - (intOf i).toNat)
  case atStart => exact ⟨0, 8 * n + 8 * m + q, by omega, by omega, rfl, by go_num⟩
  case round =>
    obtain ⟨k, t, hk, ht, rfl, rfl⟩ := hrel
    by_cases hlt : k < n
    · have hkl : k < l.length := by rw [HL.out]; exact hlt
      obtain ⟨x, rfl, hxb, cx⟩ := HR.out.at_ (sv_at l k hkl)
      have hz := HS.out _ (List.getElem_mem hkl)
      obtain ⟨s, hs⟩ : ∃ s, s = l[k] := ⟨_, rfl⟩
      rw [← hs] at cx hz
      clear hs
      go_wp2
      all_goals try (go_ret; exact ⟨t + s.size, by go_num, rfl⟩)
      go_round
      case rel => exact ⟨k + 1, t + s.size, by omega, by omega, by go_num, by go_num⟩
      case measure => simp [intOf]; omega
    · obtain rfl : k = n := by omega
      go_wp2
      go_loop [7, 9] (fun z i => ∃ j m' : Nat, j ≤ m ∧ m' ≤ 33554432 ∧ i = .int .i64 j ∧ z = .int .i64 m') (fun _ i => m - (intOf i).toNat)
      case atStart => exact ⟨0, t, by omega, by omega, rfl, rfl⟩
      case round =>
        obtain ⟨j, u, hj, hu, rfl, rfl⟩ := hrel
        by_cases hltj : j < m
        · have hkl : j < k_.length := by rw [HK.out]; exact hltj
          obtain ⟨x, rfl, hxb, cx⟩ := HQ.out.at_ (sv_at k_ j hkl)
          have hz := HT.out _ (List.getElem_mem hkl)
          obtain ⟨s, hs⟩ : ∃ s, s = k_[j] := ⟨_, rfl⟩
          rw [← hs] at cx hz
          clear hs
          go_wp2
          all_goals try (go_ret; exact ⟨u + s.size, by go_num, rfl⟩)
          go_round
          case rel => exact ⟨j + 1, u + s.size, by omega, by omega, by go_num, by go_num⟩
          case measure => simp [intOf]; omega
        · obtain rfl : j = m := by omega
          go_wp2
          go_ret
          exact ⟨u, rfl, rfl⟩
/-! ### slices of bools -/
def tv (l : List Bool) : List Value := l.map Value.bool
theorem tv_len (l : List Bool) : (tv l).length = l.length := by simp [tv]
theorem tv_at (l : List Bool) (j : Nat) (h : j < l.length) : (tv l)[j]? = some (.bool l[j]) := by simp [tv, h]
theorem rd_of_bools {w : World} {a : Option Addr} {len cap : Nat} {zs : List Bool} (h : IsBools w a len cap zs) : (∃ l : List Bool, l.length = len ∧ Rd w w.heap.size a (tv l)) ∧ (a = none → len = 0 ∧ cap = 0) ∧ len ≤ maxLen := by
  rcases h with ⟨rfl, rfl, rfl, rfl⟩ | ⟨x, rfl, hlc, hm, hz, hc⟩
  · exact ⟨⟨[], rfl, fun hl => absurd hl (by simp [tv])⟩, fun _ => ⟨rfl, rfl⟩, by unfold maxLen; omega⟩
  · refine ⟨⟨zs.take len, by simp; omega, fun hl => ⟨x, rfl, ?_, fun j c hj => ?_⟩⟩, fun h => (by cases h), by omega⟩
    · have h0 := hc 0 (by rw [tv_len] at hl; simp at hl; omega)
      have := lt_cell h0
      rw [add_block] at this; exact this
    · simp only [tv, List.getElem?_map, List.getElem?_take] at hj
      by_cases hjl : j < len
      · rw [if_pos hjl] at hj
        have hjz : j < zs.length := by omega
        rw [List.getElem?_eq_getElem hjz] at hj
        simp at hj
        rw [hc j hjz, ← hj]
        simp [List.getD, hjz]
      · rw [if_neg hjl] at hj; simp at hj
theorem infoT : (Tryf.prog.info? 4).map (fun i => (i.zero, i.size, i.bytes)) = some (some (.bool false), 1, 1) := by kernel_rfl
def copT (l : List Bool) (k i : Nat) : Value := if i < k then (tv l).getD i (.bool false) else .bool false
theorem copT_step (l : List Bool) (k : Nat) (u : Value) (h : (tv l)[k]? = some u) (i : Nat) : (if i = k then u else copT l k i) = copT l (k + 1) i := by
  unfold copT
  by_cases hi : i = k
  · subst hi; rw [if_pos rfl, if_pos (by omega), List.getD_eq_getElem?_getD, h]; rfl
  · rw [if_neg hi]
    by_cases h2 : i < k
    · rw [if_pos h2, if_pos (by omega)]
    · rw [if_neg h2, if_neg (by omega)]
theorem cloneT_nil (w : World) : Calls Tryf.prog 7 #[.slice none 0 0] w fun e w' => e = .returned (.slice none 0 0) ∧ w = w' := by
  have hnl := fun (W : World) (a : Option Addr) (n c : Nat) => Lib.run_eql_slice_nil (P := Tryf.prog) W 23 4 a n c 0 0 Tryf.underlying23
  go_enter Tryf.func7, Tryf.ntmps7
  go_wp2
  go_ret
  exact ⟨rfl, rfl⟩
theorem cloneT_some (x : Addr) (n c : Nat) (l : List Bool) (w : World) (hl : l.length = n) (hn : n ≤ 1048576) (hr : Rd w w.heap.size (some x) (tv l)) :
    Calls Tryf.prog 7 #[.slice (some x) n c] w fun e w' => e = .returned (.slice (some ⟨w.heap.size, 0, none⟩) n n) ∧ Own w' w.heap.size 4 (.slice (some ⟨w.heap.size, 0, none⟩) n n) (tv l) ∧ Below w.heap.size w w' := by
  have hmk := fun W => run_make_row' (P := Tryf.prog) 23 4 (.bool false) 1 Tryf.underlying23 infoT rfl .i64 .i64 n (by omega) (by omega) W
  have HL := Lib.hid hl; clear hl
  have HRd := Lib.hid hr; clear hr
  have hnl := fun (W : World) (a : Option Addr) (n c : Nat) => Lib.run_eql_slice_nil (P := Tryf.prog) W 23 4 a n c 0 0 Tryf.underlying23
  go_enter Tryf.func7, Tryf.ntmps7
  go_wp2
  clear hmk hnl
  go_loopw [4] (fun i wr => ∃ k : Nat, k ≤ n ∧ i = .int .i64 k ∧ wr.rowIs w.heap.size 4 n (copT l k) ∧ Below w.heap.size w wr) (fun i _ => n - (intOf i).toNat)
  case atStart => exact ⟨0, by omega, rfl, (World.rowIs_made w (.bool false) n 4).congr (fun i _ => by unfold copT; rw [if_neg (by omega)]), (Below.refl _ _).alloc (Nat.le_refl _) _⟩
  case round =>
    obtain ⟨k, hk, rfl, HR, hbel⟩ := hrel
    by_cases hlt : k < n
    · have hkl : k < l.length := by rw [HL.out]; exact hlt
      obtain ⟨y, hy, hb, hc⟩ := HRd.out.at_ (tv_at l k hkl)
      injection hy with hy; subst hy
      have cx := (hbel.cell (p := x.add k) (by rw [add_block]; exact hb)).trans hc
      have cw := HR.cell (i := k) hlt
      have fw := HR.frozen k
      have R2 := Lib.hid ((HR.set k _).congr (fun i _ => copT_step l k _ (tv_at l k hkl) i))
      have B2 := Lib.hid (hbel.setCell (p := ⟨w.heap.size, k, none⟩) (Nat.le_refl _) (.bool l[k]))
      obtain ⟨q, hq⟩ : ∃ q, q = l[k] := ⟨_, rfl⟩
      rw [← hq] at cx R2 B2
      clear HR hbel hq hb hc
      go_wp2
      go_roundw
      case rel => exact ⟨k + 1, by omega, by go_num, R2.out, B2.out⟩
      case measure => simp [intOf]; omega
    · have hkn : k = n := by omega
      subst hkn
      have R2 := Lib.hid HR
      have B2 := Lib.hid hbel
      clear HR hbel
      go_wp2
      go_ret
      refine ⟨rfl, ?_, B2.out⟩
      have e1 : (tv l).length = k := by rw [tv_len, HL.out]
      refine Own.of_row (R2.out) e1 (fun i hi => ?_) (Nat.le_refl _) (by unfold maxLen; omega)
      unfold copT
      rw [if_pos hi, List.getD_eq_getElem?_getD, List.getElem?_eq_getElem (by omega)]; rfl
def ClT (n : Nat) (l : List Bool) (w : World) (e : Ending) (w' : World) : Prop := ∃ A' c', e = .returned (.slice A' n c') ∧ Own w' w.heap.size 4 (.slice A' n c') (tv l) ∧ Below w.heap.size w w'
theorem cloneT (A : Option Addr) (n c : Nat) (l : List Bool) (w : World) (hl : l.length = n) (hn : n ≤ 1048576) (hnil : A = none → n = 0 ∧ c = 0) (hr : Rd w w.heap.size A (tv l)) : Calls Tryf.prog 7 #[.slice A n c] w (ClT n l w) := by
  rcases A with _ | x
  · obtain ⟨rfl, rfl⟩ := hnil rfl
    obtain rfl : l = [] := List.eq_nil_of_length_eq_zero hl
    refine (cloneT_nil w).mono ?_
    rintro e w' ⟨rfl, rfl⟩
    exact ⟨none, 0, rfl, Own.nil _ _ _, Below.refl _ _⟩
  · refine (cloneT_some x n c l w hl hn hr).mono ?_
    rintro e w' ⟨rfl, h1, h2⟩
    exact ⟨_, _, rfl, h1, h2⟩
end Go.Proofs.YtpaefmnjhfldjaaFmt.Cma
