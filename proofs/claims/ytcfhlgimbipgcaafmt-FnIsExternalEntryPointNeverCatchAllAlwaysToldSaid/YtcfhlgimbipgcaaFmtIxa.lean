/- zzBytes, zzGuardOK and zzMin by contracts; slices of pairs of strings as rows of two cells an element. Conditions: lengths. -/
import Derived.Test.YtcfhlgimbipgcaaFmtMps
import Derived.Test.YtcfhlgimbipgcaaFmtSls
import Derived.Test.YtcfhlgimbipgcaaFmtShelf
import Derived.Test.YtcfhlgimbipgcaaFmtProg
import Derived.WalkSpells
import Derived.WalkLawsBesides
import Derived.Handy
import Derived.Deep.QuietTactic
import Derived.BigQuiet
import Derived.Deep.RegionHeld3
import Derived.Deep.AppendLies
import Derived.IntWalk
import Derived.Laws.Tables
import Derived.Deep.DrawnRows
namespace Go.Proofs.YtcfhlgimbipgcaaFmt.Ixa
open Go.RowKit Go.Deep Go.Proofs.YtcfhlgimbipgcaaFmt.Base Go.Proofs.YtcfhlgimbipgcaaFmt.Sls Go.Proofs.YtcfhlgimbipgcaaFmt.Mps
set_option linter.unusedVariables false
attribute [local go_sem ↓] Go.wp_at_zero Go.wp_at_succ
/-- If it says yes, what the arguments lead to is short. -/
theorem bytes_any (A0 : Option Addr) (n0 c0 : Nat) (l0 : List ByteArray) (A1 : Option Addr) (n1 c1 : Nat) (l1 : List ByteArray) (A2 : Option Addr) (n2 c2 : Nat) (l2 : List ByteArray) (s3 : ByteArray) (x4 : Value) (w : World) (hl0 : l0.length = n0) (hn0 : n0 ≤ maxLen) (hr0 : Rd w w.heap.size A0 (sv l0)) (hs0 : ∀ s ∈ l0, s.size ≤ maxLen) (hl1 : l1.length = n1) (hn1 : n1 ≤ maxLen) (hr1 : Rd w w.heap.size A1 (sv l1)) (hs1 : ∀ s ∈ l1, s.size ≤ maxLen) (hl2 : l2.length = n2) (hn2 : n2 ≤ maxLen) (hr2 : Rd w w.heap.size A2 (sv l2)) (hs2 : ∀ s ∈ l2, s.size ≤ maxLen) (hs3 : s3.size ≤ maxLen) :
    Calls Tryf.prog 4 #[.slice A0 n0 c0, .slice A1 n1 c1, .slice A2 n2 c2, .string s3, x4] w (Bd ((n0 + tot l0) + (n1 + tot l1) + (n2 + tot l2) + s3.size ≤ 1048576) w) := by
  unfold maxLen at hn0
  have HL0 := Lib.hid hl0; have HR0 := Lib.hid hr0; have HS0 := Lib.hid hs0
  clear hl0 hr0 hs0
  unfold maxLen at hn1
  have HL1 := Lib.hid hl1; have HR1 := Lib.hid hr1; have HS1 := Lib.hid hs1
  clear hl1 hr1 hs1
  unfold maxLen at hn2
  have HL2 := Lib.hid hl2; have HR2 := Lib.hid hr2; have HS2 := Lib.hid hs2
  clear hl2 hr2 hs2
  unfold maxLen at hs3
  go_enter Tryf.func4, Tryf.ntmps4
  go_wp2
  all_goals try (go_ret; exact ⟨false, rfl, (fun h => by cases h), rfl⟩)
  go_loop [11, 12] (fun z i => ∃ k m : Nat, k ≤ n0 ∧ m ≤ 1048576 ∧ i = .int .i64 k ∧ z = .int .i64 m ∧ Hid (m = n0 + tot (l0.take k))) (fun _ i => n0 - (intOf i).toNat)
  case atStart => exact ⟨0, n0, by omega, by omega, rfl, by go_num, Lib.hid rfl⟩
  case round =>
    obtain ⟨k0, m0, hk0, hm0, rfl, rfl, E0⟩ := hrel
    by_cases hlt0 : k0 < n0
    · have hkl : k0 < l0.length := by rw [HL0.out]; exact hlt0
      obtain ⟨x, rfl, hxb, cx⟩ := HR0.out.at_ (sv_at l0 k0 hkl)
      have hz := HS0.out _ (List.getElem_mem hkl)
      unfold maxLen at hz
      have TS := Lib.hid (tot_step l0 k0 hkl)
      obtain ⟨s, hs⟩ : ∃ s, s = l0[k0] := ⟨_, rfl⟩
      rw [← hs] at cx hz
      have HS := Lib.hid hs
      clear hs
      go_wp2
      all_goals try (go_ret; exact ⟨false, rfl, (fun h => by cases h), rfl⟩)
      go_round
      case rel => exact ⟨k0 + 1, m0 + s.size, by omega, by omega, by go_num, by go_num, Lib.hid (by have := E0.out; have := TS.out; rw [← HS.out] at this; omega)⟩
      case measure => simp [intOf]; omega
    · obtain rfl : k0 = n0 := by omega
      go_wp2
      all_goals try (go_ret; exact ⟨false, rfl, (fun h => by cases h), rfl⟩)
      go_loop [11, 13] (fun z i => ∃ k m : Nat, k ≤ n1 ∧ m ≤ 1048576 ∧ i = .int .i64 k ∧ z = .int .i64 m ∧ Hid (m = m0 + n1 + tot (l1.take k))) (fun _ i => n1 - (intOf i).toNat)
      case atStart => exact ⟨0, m0 + n1, by omega, by omega, rfl, by go_num, Lib.hid rfl⟩
      case round =>
        obtain ⟨k1, m1, hk1, hm1, rfl, rfl, E1⟩ := hrel
        by_cases hlt1 : k1 < n1
        · have hkl : k1 < l1.length := by rw [HL1.out]; exact hlt1
          obtain ⟨x, rfl, hxb, cx⟩ := HR1.out.at_ (sv_at l1 k1 hkl)
          have hz := HS1.out _ (List.getElem_mem hkl)
          unfold maxLen at hz
          have TS := Lib.hid (tot_step l1 k1 hkl)
          obtain ⟨s, hs⟩ : ∃ s, s = l1[k1] := ⟨_, rfl⟩
          rw [← hs] at cx hz
          have HS := Lib.hid hs
          clear hs
          go_wp2
          all_goals try (go_ret; exact ⟨false, rfl, (fun h => by cases h), rfl⟩)
          go_round
          case rel => exact ⟨k1 + 1, m1 + s.size, by omega, by omega, by go_num, by go_num, Lib.hid (by have := E1.out; have := TS.out; rw [← HS.out] at this; omega)⟩
          case measure => simp [intOf]; omega
        · obtain rfl : k1 = n1 := by omega
          go_wp2
          all_goals try (go_ret; exact ⟨false, rfl, (fun h => by cases h), rfl⟩)
          go_loop [11, 14] (fun z i => ∃ k m : Nat, k ≤ n2 ∧ m ≤ 1048576 ∧ i = .int .i64 k ∧ z = .int .i64 m ∧ Hid (m = m1 + n2 + tot (l2.take k))) (fun _ i => n2 - (intOf i).toNat)
          case atStart => exact ⟨0, m1 + n2, by omega, by omega, rfl, by go_num, Lib.hid rfl⟩
          case round =>
            obtain ⟨k2, m2, hk2, hm2, rfl, rfl, E2⟩ := hrel
            by_cases hlt2 : k2 < n2
            · have hkl : k2 < l2.length := by rw [HL2.out]; exact hlt2
              obtain ⟨x, rfl, hxb, cx⟩ := HR2.out.at_ (sv_at l2 k2 hkl)
              have hz := HS2.out _ (List.getElem_mem hkl)
              unfold maxLen at hz
              have TS := Lib.hid (tot_step l2 k2 hkl)
              obtain ⟨s, hs⟩ : ∃ s, s = l2[k2] := ⟨_, rfl⟩
              rw [← hs] at cx hz
              have HS := Lib.hid hs
              clear hs
              go_wp2
              all_goals try (go_ret; exact ⟨false, rfl, (fun h => by cases h), rfl⟩)
              go_round
              case rel => exact ⟨k2 + 1, m2 + s.size, by omega, by omega, by go_num, by go_num, Lib.hid (by have := E2.out; have := TS.out; rw [← HS.out] at this; omega)⟩
              case measure => simp [intOf]; omega
            · obtain rfl : k2 = n2 := by omega
              go_wp2
              all_goals first | (go_ret; exact ⟨false, rfl, (fun h => by cases h), rfl⟩) | skip
              go_ret
              exact ⟨true, rfl, (fun _ => by have := E0.out; rw [List.take_of_length_le (by rw [HL0.out]; omega)] at this; have := E1.out; rw [List.take_of_length_le (by rw [HL1.out]; omega)] at this; have := E2.out; rw [List.take_of_length_le (by rw [HL2.out]; omega)] at this; omega), rfl⟩
set_option maxRecDepth 20000 in
set_option maxHeartbeats 2000000 in
theorem guard5 (A0 : Option Addr) (n0 c0 : Nat) (l0 : List ByteArray) (A1 : Option Addr) (n1 c1 : Nat) (l1 : List ByteArray) (A2 : Option Addr) (n2 c2 : Nat) (l2 : List ByteArray) (p : ByteArray) (w : World) (L0 : l0.length = n0) (g0 : n0 ≤ 1048576) (r0 : Rd w w.heap.size A0 (sv l0)) (m0 : ∀ s ∈ l0, s.size ≤ 1048576) (L1 : l1.length = n1) (g1 : n1 ≤ 1048576) (r1 : Rd w w.heap.size A1 (sv l1)) (m1 : ∀ s ∈ l1, s.size ≤ 1048576) (L2 : l2.length = n2) (g2 : n2 ≤ 1048576) (r2 : Rd w w.heap.size A2 (sv l2)) (m2 : ∀ s ∈ l2, s.size ≤ 1048576) (hp : p.size ≤ 1048576) :
    Calls Tryf.prog 5 #[.slice A0 n0 c0, .slice A1 n1 c1, .slice A2 n2 c2, .string p, .string { data := #[] }, .string { data := #[] }] w (Bd True w) := by
  have HL0 := Lib.hid L0; have R0 := Lib.hid r0; have M0 := Lib.hid m0
  have HL1 := Lib.hid L1; have R1 := Lib.hid r1; have M1 := Lib.hid m1
  have HL2 := Lib.hid L2; have R2 := Lib.hid r2; have M2 := Lib.hid m2
  clear L0 r0 m0 L1 r1 m1 L2 r2 m2
  go_enter Tryf.func5, Tryf.ntmps5
  go_wp2
  all_goals try (go_ret; exact ⟨false, rfl, fun _ => trivial, rfl⟩)
  go_loop [13, 14] (fun t i => ∃ k m : Nat, k ≤ n0 ∧ m ≤ 4194304 ∧ t = .int .i64 m ∧ i = .int .i64 k) (fun _ i => n0 - (intOf i).toNat)
  case atStart => exact ⟨0, p.size + 8 * (n0 + n1 + n2), by omega, by omega, by go_num, rfl⟩
  case round =>
    obtain ⟨k, t0, hk, ht0, rfl, rfl⟩ := hrel
    by_cases hlt : k < n0
    · have kl : k < l0.length := by rw [HL0.out]; exact hlt
      obtain ⟨x, rfl, hxb, cx⟩ := R0.out.at_ (sv_at l0 k kl)
      have z1 := M0.out _ (List.getElem_mem kl)
      obtain ⟨s, hs⟩ : ∃ s, s = l0[k] := ⟨_, rfl⟩
      rw [← hs] at cx z1
      clear hs
      go_wp2
      all_goals try (go_ret; exact ⟨false, rfl, fun _ => trivial, rfl⟩)
      go_round
      case rel => exact ⟨k + 1, t0 + s.size, by omega, by omega, by go_num, by go_num⟩
      case measure => simp [intOf]; omega
    · obtain rfl : k = n0 := by omega
      go_wp2
      go_loop [13, 15] (fun t i => ∃ k m : Nat, k ≤ n1 ∧ m ≤ 4194304 ∧ t = .int .i64 m ∧ i = .int .i64 k) (fun _ i => n1 - (intOf i).toNat)
      case atStart => exact ⟨0, t0, by omega, by omega, by go_num, rfl⟩
      case round =>
        obtain ⟨k, t1, hk, ht1, rfl, rfl⟩ := hrel
        by_cases hlt : k < n1
        · have kl : k < l1.length := by rw [HL1.out]; exact hlt
          obtain ⟨x, rfl, hxb, cx⟩ := R1.out.at_ (sv_at l1 k kl)
          have z1 := M1.out _ (List.getElem_mem kl)
          obtain ⟨s, hs⟩ : ∃ s, s = l1[k] := ⟨_, rfl⟩
          rw [← hs] at cx z1
          clear hs
          go_wp2
          all_goals try (go_ret; exact ⟨false, rfl, fun _ => trivial, rfl⟩)
          go_round
          case rel => exact ⟨k + 1, t1 + s.size, by omega, by omega, by go_num, by go_num⟩
          case measure => simp [intOf]; omega
        · obtain rfl : k = n1 := by omega
          go_wp2
          go_loop [13, 16] (fun t i => ∃ k m : Nat, k ≤ n2 ∧ m ≤ 4194304 ∧ t = .int .i64 m ∧ i = .int .i64 k) (fun _ i => n2 - (intOf i).toNat)
          case atStart => exact ⟨0, t1, by omega, by omega, by go_num, rfl⟩
          case round =>
            obtain ⟨k, t2, hk, ht2, rfl, rfl⟩ := hrel
            by_cases hlt : k < n2
            · have kl : k < l2.length := by rw [HL2.out]; exact hlt
              obtain ⟨x, rfl, hxb, cx⟩ := R2.out.at_ (sv_at l2 k kl)
              have z1 := M2.out _ (List.getElem_mem kl)
              obtain ⟨s, hs⟩ : ∃ s, s = l2[k] := ⟨_, rfl⟩
              rw [← hs] at cx z1
              clear hs
              go_wp2
              all_goals try (go_ret; exact ⟨false, rfl, fun _ => trivial, rfl⟩)
              go_round
              case rel => exact ⟨k + 1, t2 + s.size, by omega, by omega, by go_num, by go_num⟩
              case measure => simp [intOf]; omega
            · obtain rfl : k = n2 := by omega
              go_wp2
              go_ret
              exact ⟨_, rfl, fun _ => trivial, rfl⟩
theorem min8 (a b : Nat) (w : World) (ha : a ≤ 1048576) (hb : b ≤ 1048576) : Calls Tryf.prog 8 #[.int .i64 a, .int .i64 b] w fun e w' => e = .returned (.int .i64 ((min a b : Nat) : Int)) ∧ w = w' := by
  by_cases h : a < b
  · obtain ⟨m, hm⟩ : ∃ m, m = min a b := ⟨_, rfl⟩
    have e : m = a := by omega
    rw [← hm, e]
    have h' : (a : Int) < (b : Int) := by omega
    clear hm e
    go_enter Tryf.func8, Tryf.ntmps8
    go_wp2
    go_ret
    exact ⟨rfl, rfl⟩
  · obtain ⟨m, hm⟩ : ∃ m, m = min a b := ⟨_, rfl⟩
    have e : m = b := by omega
    rw [← hm, e]
    have h' : ¬ (a : Int) < (b : Int) := by omega
    clear hm e
    go_enter Tryf.func8, Tryf.ntmps8
    go_wp2
    go_ret
    exact ⟨rfl, rfl⟩
/-! ### Pairs of strings -/
def pv (l : List (ByteArray × ByteArray)) : List Value := l.flatMap fun p => [.string p.1, .string p.2]
theorem pv_len (l : List (ByteArray × ByteArray)) : (pv l).length = l.length * 2 := by
  induction l with
  | nil => rfl
  | cons a l ih => unfold pv at *; rw [List.flatMap_cons, List.length_append, ih, List.length_cons]; simp; omega
theorem pv_append (a b : List (ByteArray × ByteArray)) : pv (a ++ b) = pv a ++ pv b := by simp [pv]
theorem pv_at (l : List (ByteArray × ByteArray)) (j : Nat) (h : j < l.length) : (pv l)[j * 2]? = some (.string l[j].1) ∧ (pv l)[j * 2 + 1]? = some (.string l[j].2) := by
  induction l generalizing j with
  | nil => exact absurd h (Nat.not_lt_zero _)
  | cons a l ih =>
    cases j with
    | zero => exact ⟨rfl, rfl⟩
    | succ j =>
      have := ih j (by simpa using h)
      exact ⟨by rw [show (j + 1) * 2 = j * 2 + 1 + 1 by omega]; exact this.1, by rw [show (j + 1) * 2 + 1 = j * 2 + 1 + 1 + 1 by omega]; exact this.2⟩
/-- A row of the call's own of pairs of strings. -/
def Pw (w : World) (base : Nat) (v : Value) (l : List (ByteArray × ByteArray)) : Prop := w.ownsRow base 32 2 v l.length (pv l)
theorem Pw.nil (w : World) (base : Nat) : Pw w base (.slice none 0 0) [] := ⟨rfl, .inl ⟨rfl, rfl⟩⟩
theorem Pw.at_ {w : World} {base : Nat} {v : Value} {l : List (ByteArray × ByteArray)} (h : Pw w base v l) : ∃ A c, v = .slice A l.length c ∧ (0 < l.length → ∃ g, A = some ⟨g, 0, none⟩ ∧ base ≤ g ∧ g < w.heap.size ∧ ∀ j (hj : j < l.length), w.cell? ⟨g, j * 2, none⟩ = some (.string l[j].1) ∧ w.cell? ⟨g, j * 2 + 1, none⟩ = some (.string l[j].2)) := by
  obtain ⟨hl, h⟩ := h
  rcases h with ⟨rfl, h0⟩ | ⟨g, cap, cur, rfl, hb, hh, hn, hm, hc, hx⟩
  · exact ⟨none, 0, by rw [h0], fun h => by omega⟩
  · refine ⟨_, cap, rfl, fun _ => ⟨g, rfl, hb, (Array.getElem?_eq_some_iff.1 hh).1, fun j hj => ?_⟩⟩
    have e := pv_at l j hj
    rw [← hx] at e
    rw [List.getElem?_take_of_lt (by omega), List.getElem?_take_of_lt (by omega)] at e
    have c1 : w.cell? ⟨g, j * 2, none⟩ = cur[j * 2]? := by simp [World.cell?, hh]
    have c2 : w.cell? ⟨g, j * 2 + 1, none⟩ = cur[j * 2 + 1]? := by simp [World.cell?, hh]
    rw [c1, c2]
    simpa using e
theorem Pw.to {w w' : World} {base : Nat} {v : Value} {l : List (ByteArray × ByteArray)} (h : Pw w base v l) (hk : ∀ g, v.ownBlock = some g → w'.heap[g]? = w.heap[g]?) : Pw w' base v l := by
  obtain ⟨hl, h⟩ := h
  refine ⟨hl, ?_⟩
  rcases h with h | ⟨g, cap, cur, rfl, hb, hh, r⟩
  · exact .inl h
  · exact .inr ⟨g, cap, cur, rfl, hb, (hk g rfl).trans hh, r⟩
theorem Pw.lt {w : World} {base : Nat} {v : Value} {l : List (ByteArray × ByteArray)} (h : Pw w base v l) {g : Nat} (hg : v.ownBlock = some g) : base ≤ g ∧ g < w.heap.size := by
  obtain ⟨hl, h⟩ := h
  rcases h with ⟨rfl, h0⟩ | ⟨g', cap, cur, rfl, hb, hh, r⟩
  · cases hg
  · have : g' = g := by simpa [Value.ownBlock] using hg
    subst this
    exact ⟨hb, (Array.getElem?_eq_some_iff.1 hh).1⟩
theorem Pw.below {w w' : World} {base B : Nat} {v : Value} {l : List (ByteArray × ByteArray)} (h : Pw w base v l) (hb : Below B w w') (hB : w.heap.size ≤ B) : Pw w' base v l := h.to fun g hg => hb.block g (Nat.lt_of_lt_of_le (h.lt hg).2 hB)
end Go.Proofs.YtcfhlgimbipgcaaFmt.Ixa
