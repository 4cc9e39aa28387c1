/- The bounds that the laws on mapKeyForDefine lay on their arguments, by contracts. Conditions: lengths that fit an int. -/
import Derived.Test.YtefkeccjnhkjeaaKey
namespace Go.Proofs.Ytefkeccjnhkjeaa.Bds
open Go.ChangeShapes Go.WideShapes Go.ChangeAt Go.RowKit Go.Deep Go.Proofs.Ytefkeccjnhkjeaa.Base Go.Proofs.Ytefkeccjnhkjeaa.Sls Go.Proofs.Ytefkeccjnhkjeaa.Bld Go.Proofs.Ytefkeccjnhkjeaa.Key
set_option linter.unusedVariables false
/-- A yes that says P. -/
def Bd (P : Prop) (w : World) (e : Ending) (w' : World) : Prop := ∃ b : Bool, e = .returned (.bool b) ∧ (b = true → P) ∧ w = w'
/-- If it says yes, what the arguments lead to is short. -/
theorem two_any (A0 : Option Addr) (n0 c0 : Nat) (l0 : List ByteArray) (A1 : Option Addr) (n1 c1 : Nat) (l1 : List ByteArray) (w : World) (hl0 : l0.length = n0) (hn0 : n0 ≤ maxLen) (hr0 : Rd w w.heap.size A0 (sv l0)) (hs0 : ∀ s ∈ l0, s.size ≤ maxLen) (hl1 : l1.length = n1) (hn1 : n1 ≤ maxLen) (hr1 : Rd w w.heap.size A1 (sv l1)) (hs1 : ∀ s ∈ l1, s.size ≤ maxLen) :
    Calls Try.prog 5 #[.slice A0 n0 c0, .slice A1 n1 c1] w (Bd ((n0 + tot l0) + (n1 + tot l1) ≤ 1048576) w) := by
  unfold maxLen at hn0
  have HL0 := Lib.hid hl0; have HR0 := Lib.hid hr0; have HS0 := Lib.hid hs0
  clear hl0 hr0 hs0
  unfold maxLen at hn1
  have HL1 := Lib.hid hl1; have HR1 := Lib.hid hr1; have HS1 := Lib.hid hs1
  clear hl1 hr1 hs1
  go_enter Try.func5, Try.ntmps5
  go_wp2
  all_goals try (go_ret; exact ⟨false, rfl, (fun h => by cases h), rfl⟩)
  go_loop [5, 6] (fun z i => ∃ k m : Nat, k ≤ n0 ∧ m ≤ 1048576 ∧ i = .int .i64 k ∧ z = .int .i64 m ∧ Hid (m = n0 + tot (l0.take k))) (fun _ i => n0 - (intOf i).toNat)
  case atStart => exact ⟨0, n0, by omega, by omega, rfl, by go_num, Lib.hid rfl⟩
  case round =>
    obtain ⟨k0, m0, hk0, hm0, rfl, rfl, E0⟩ := hrel
    by_cases hlt0 : k0 < n0
    · have hkl : k0 < l0.length := by rw [HL0.out]; exact hlt0
      obtain ⟨x, rfl, hxb, cx⟩ := HR0.out.at_ (sv_at l0 k0 hkl)
      have hz := HS0.out _ (List.getElem_mem hkl)
      unfold maxLen at hz
      have TS := Lib.hid (tot_step l0 k0 hkl)
      obtain ⟨s, hs⟩ : ∃ s, s = l0[k0] := ⟨_, rfl⟩
      rw [← hs] at cx hz
      have HS := Lib.hid hs
      clear hs
      go_wp2
      all_goals try (go_ret; exact ⟨false, rfl, (fun h => by cases h), rfl⟩)
      go_round
      case rel => exact ⟨k0 + 1, m0 + s.size, by omega, by omega, by go_num, by go_num, Lib.hid (by have := E0.out; have := TS.out; rw [← HS.out] at this; omega)⟩
      case measure => simp [intOf]; omega
    · obtain rfl : k0 = n0 := by omega
      go_wp2
      all_goals try (go_ret; exact ⟨false, rfl, (fun h => by cases h), rfl⟩)
      go_loop [5, 7] (fun z i => ∃ k m : Nat, k ≤ n1 ∧ m ≤ 1048576 ∧ i = .int .i64 k ∧ z = .int .i64 m ∧ Hid (m = m0 + n1 + tot (l1.take k))) (fun _ i => n1 - (intOf i).toNat)
      case atStart => exact ⟨0, m0 + n1, by omega, by omega, rfl, by go_num, Lib.hid rfl⟩
      case round =>
        obtain ⟨k1, m1, hk1, hm1, rfl, rfl, E1⟩ := hrel
        by_cases hlt1 : k1 < n1
        · have hkl : k1 < l1.length := by rw [HL1.out]; exact hlt1
          obtain ⟨x, rfl, hxb, cx⟩ := HR1.out.at_ (sv_at l1 k1 hkl)
          have hz := HS1.out _ (List.getElem_mem hkl)
          unfold maxLen at hz
          have TS := Lib.hid (tot_step l1 k1 hkl)
          obtain ⟨s, hs⟩ : ∃ s, s = l1[k1] := ⟨_, rfl⟩
          rw [← hs] at cx hz
          have HS := Lib.hid hs
          clear hs
          go_wp2
          all_goals try (go_ret; exact ⟨false, rfl, (fun h => by cases h), rfl⟩)
          go_round
          case rel => exact ⟨k1 + 1, m1 + s.size, by omega, by omega, by go_num, by go_num, Lib.hid (by have := E1.out; have := TS.out; rw [← HS.out] at this; omega)⟩
          case measure => simp [intOf]; omega
        · obtain rfl : k1 = n1 := by omega
          go_wp2
          all_goals first | (go_ret; exact ⟨false, rfl, (fun h => by cases h), rfl⟩) | skip
          go_ret
          exact ⟨true, rfl, (fun _ => by have := E0.out; rw [List.take_of_length_le (by rw [HL0.out]; omega)] at this; have := E1.out; rw [List.take_of_length_le (by rw [HL1.out]; omega)] at this; omega), rfl⟩
/-- If it says yes, what the arguments lead to is short. -/
theorem one_any (A0 : Option Addr) (n0 c0 : Nat) (l0 : List ByteArray) (w : World) (hl0 : l0.length = n0) (hn0 : n0 ≤ maxLen) (hr0 : Rd w w.heap.size A0 (sv l0)) (hs0 : ∀ s ∈ l0, s.size ≤ maxLen) :
    Calls Try.prog 8 #[.slice A0 n0 c0] w (Bd ((n0 + tot l0) ≤ 1048576) w) := by
  unfold maxLen at hn0
  have HL0 := Lib.hid hl0; have HR0 := Lib.hid hr0; have HS0 := Lib.hid hs0
  clear hl0 hr0 hs0
  go_enter Try.func8, Try.ntmps8
  go_wp2
  all_goals try (go_ret; exact ⟨false, rfl, (fun h => by cases h), rfl⟩)
  go_loop [3, 4] (fun z i => ∃ k m : Nat, k ≤ n0 ∧ m ≤ 1048576 ∧ i = .int .i64 k ∧ z = .int .i64 m ∧ Hid (m = n0 + tot (l0.take k))) (fun _ i => n0 - (intOf i).toNat)
  case atStart => exact ⟨0, n0, by omega, by omega, rfl, by go_num, Lib.hid rfl⟩
  case round =>
    obtain ⟨k0, m0, hk0, hm0, rfl, rfl, E0⟩ := hrel
    by_cases hlt0 : k0 < n0
    · have hkl : k0 < l0.length := by rw [HL0.out]; exact hlt0
      obtain ⟨x, rfl, hxb, cx⟩ := HR0.out.at_ (sv_at l0 k0 hkl)
      have hz := HS0.out _ (List.getElem_mem hkl)
      unfold maxLen at hz
      have TS := Lib.hid (tot_step l0 k0 hkl)
      obtain ⟨s, hs⟩ : ∃ s, s = l0[k0] := ⟨_, rfl⟩
      rw [← hs] at cx hz
      have HS := Lib.hid hs
      clear hs
      go_wp2
      all_goals try (go_ret; exact ⟨false, rfl, (fun h => by cases h), rfl⟩)
      go_round
      case rel => exact ⟨k0 + 1, m0 + s.size, by omega, by omega, by go_num, by go_num, Lib.hid (by have := E0.out; have := TS.out; rw [← HS.out] at this; omega)⟩
      case measure => simp [intOf]; omega
    · obtain rfl : k0 = n0 := by omega
      go_wp2
      all_goals first | (go_ret; exact ⟨false, rfl, (fun h => by cases h), rfl⟩) | skip
      go_ret
      exact ⟨true, rfl, (fun _ => by have := E0.out; rw [List.take_of_length_le (by rw [HL0.out]; omega)] at this; omega), rfl⟩
theorem sum_any (A : Option Addr) (n c : Nat) (l : List ByteArray) (w : World) (hl : l.length = n) (hn : n + tot l ≤ 1048576) (hr : Rd w w.heap.size A (sv l)) :
    Calls Try.prog 6 #[.slice A n c] w fun e w' => e = .returned (.int .i64 ((8 * n + tot l : Nat) : Int)) ∧ w = w' := by
  have HL := Lib.hid hl; have HR := Lib.hid hr
  clear hl hr
  have hn1 : n ≤ 1048576 := by omega
  obtain ⟨T, hT⟩ : ∃ T, T = tot l := ⟨_, rfl⟩
  rw [← hT] at hn ⊢
  have HT := Lib.hid hT
  clear hT
  go_enter Try.func6, Try.ntmps6
  go_wp2
  go_loop [3, 4] (fun z i => ∃ k m : Nat, k ≤ n ∧ m ≤ 16777216 ∧ i = .int .i64 k ∧ z = .int .i64 m ∧ Hid (m = 8 * n + tot (l.take k))) (fun _ i => n - (intOf i).toNat)
  case atStart => exact ⟨0, 8 * n, by omega, by omega, rfl, by go_num, Lib.hid rfl⟩
  case round =>
    obtain ⟨k, m, hk, hm, rfl, rfl, E⟩ := hrel
    by_cases hlt : k < n
    · have hkl : k < l.length := by rw [HL.out]; exact hlt
      obtain ⟨x, rfl, hxb, cx⟩ := HR.out.at_ (sv_at l k hkl)
      have TS := Lib.hid (tot_step l k hkl)
      have hz : l[k].size ≤ 1048576 ∧ m + l[k].size ≤ 16777216 := by
        have := TS.out; have := tot_le l (k + 1); have := HT.out; have := E.out; omega
      obtain ⟨s, hs⟩ : ∃ s, s = l[k] := ⟨_, rfl⟩
      rw [← hs] at cx hz
      have HS := Lib.hid hs
      obtain ⟨hz1, hz2⟩ := hz
      clear hs
      go_wp2
      go_round
      case rel => exact ⟨k + 1, m + s.size, by omega, by omega, by go_num, by go_num, Lib.hid (by have := E.out; have := TS.out; rw [← HS.out] at this; omega)⟩
      case measure => simp [intOf]; omega
    · obtain rfl : k = n := by omega
      have e : m = 8 * k + T := by
        have := E.out; rw [List.take_of_length_le (by rw [HL.out]; omega)] at this; rw [this, HT.out]
      have EE := Lib.hid e
      clear e
      go_wp2
      go_ret
      exact ⟨ret_int (by have := EE.out; omega), rfl⟩
end Go.Proofs.Ytefkeccjnhkjeaa.Bds
