/- The bound that the law on the fallback lays on its arguments, by its contract. Conditions: lengths that fit an int. -/
import Derived.Test.YtohhbnfbdeidbaaFmtPnp
import Derived.Test.YtohhbnfbdeidbaaFmtSls
namespace Go.Proofs.YtohhbnfbdeidbaaFmt.Rvb
open Go.RowKit Go.Maps Go.Proofs.YtohhbnfbdeidbaaFmt.Base Go.Proofs.YtohhbnfbdeidbaaFmt.Mps Go.Proofs.YtohhbnfbdeidbaaFmt.Pnp Go.Proofs.YtohhbnfbdeidbaaFmt.Sls
set_option linter.unusedVariables false
set_option maxRecDepth 100000 in
set_option maxHeartbeats 4000000 in
theorem bytes12 (x0 : Value) (A1 : Option Addr) (n1 c1 : Nat) (l1 : List ByteArray) (A2 : Option Addr) (n2 c2 : Nat) (l2 : List ByteArray) (A3 : Option Addr) (n3 c3 : Nat) (l3 : List ByteArray) (A4 : Option Addr) (n4 c4 : Nat) (l4 : List ByteArray) (A5 : Option Addr) (n5 c5 : Nat) (l5 : List ByteArray) (A6 : Option Addr) (n6 c6 : Nat) (l6 : List ByteArray) (s7 : ByteArray) (w : World) (hl1 : l1.length = n1) (hn1 : n1 ≤ maxLen) (hr1 : Rd w w.heap.size A1 (sv l1)) (hs1 : ∀ s ∈ l1, s.size ≤ maxLen) (hl2 : l2.length = n2) (hn2 : n2 ≤ maxLen) (hr2 : Rd w w.heap.size A2 (sv l2)) (hs2 : ∀ s ∈ l2, s.size ≤ maxLen) (hl3 : l3.length = n3) (hn3 : n3 ≤ maxLen) (hr3 : Rd w w.heap.size A3 (sv l3)) (hs3 : ∀ s ∈ l3, s.size ≤ maxLen) (hl4 : l4.length = n4) (hn4 : n4 ≤ maxLen) (hr4 : Rd w w.heap.size A4 (sv l4)) (hs4 : ∀ s ∈ l4, s.size ≤ maxLen) (hl5 : l5.length = n5) (hn5 : n5 ≤ maxLen) (hr5 : Rd w w.heap.size A5 (sv l5)) (hs5 : ∀ s ∈ l5, s.size ≤ maxLen) (hl6 : l6.length = n6) (hn6 : n6 ≤ maxLen) (hr6 : Rd w w.heap.size A6 (sv l6)) (hs6 : ∀ s ∈ l6, s.size ≤ maxLen) (hs7 : s7.size ≤ maxLen) :
    Calls Tryf.prog 12 #[x0, .slice A1 n1 c1, .slice A2 n2 c2, .slice A3 n3 c3, .slice A4 n4 c4, .slice A5 n5 c5, .slice A6 n6 c6, .string s7] w (Bd ((n1 + tot l1) + (n2 + tot l2) + (n3 + tot l3) + (n4 + tot l4) + (n5 + tot l5) + (n6 + tot l6) + s7.size ≤ 1048576) w) := by
  unfold maxLen at hn1
  have HL1 := Lib.hid hl1; have HR1 := Lib.hid hr1; have HS1 := Lib.hid hs1
  clear hl1 hr1 hs1
  unfold maxLen at hn2
  have HL2 := Lib.hid hl2; have HR2 := Lib.hid hr2; have HS2 := Lib.hid hs2
  clear hl2 hr2 hs2
  unfold maxLen at hn3
  have HL3 := Lib.hid hl3; have HR3 := Lib.hid hr3; have HS3 := Lib.hid hs3
  clear hl3 hr3 hs3
  unfold maxLen at hn4
  have HL4 := Lib.hid hl4; have HR4 := Lib.hid hr4; have HS4 := Lib.hid hs4
  clear hl4 hr4 hs4
  unfold maxLen at hn5
  have HL5 := Lib.hid hl5; have HR5 := Lib.hid hr5; have HS5 := Lib.hid hs5
  clear hl5 hr5 hs5
  unfold maxLen at hn6
  have HL6 := Lib.hid hl6; have HR6 := Lib.hid hr6; have HS6 := Lib.hid hs6
  clear hl6 hr6 hs6
  unfold maxLen at hs7
  go_enter Tryf.func12, Tryf.ntmps12
  go_wp2
  all_goals try (go_ret; exact ⟨false, rfl, (fun h => by cases h), rfl⟩)
  go_loop [17, 18] (fun z i => ∃ k m : Nat, k ≤ n1 ∧ m ≤ 1048576 ∧ i = .int .i64 k ∧ z = .int .i64 m ∧ Hid (m = n1 + tot (l1.take k))) (fun _ i => n1 - (intOf i).toNat)
  case atStart => exact ⟨0, n1, by omega, by omega, rfl, by go_num, Lib.hid rfl⟩
  case round =>
    obtain ⟨k1, m1, hk1, hm1, rfl, rfl, E1⟩ := hrel
    by_cases hlt1 : k1 < n1
    · have hkl : k1 < l1.length := by rw [HL1.out]; exact hlt1
      obtain ⟨x, rfl, hxb, cx⟩ := HR1.out.at_ (sv_at l1 k1 hkl)
      have hz := HS1.out _ (List.getElem_mem hkl)
      unfold maxLen at hz
      have TS := Lib.hid (tot_step l1 k1 hkl)
      obtain ⟨s, hs⟩ : ∃ s, s = l1[k1] := ⟨_, rfl⟩
      rw [← hs] at cx hz
      have HS := Lib.hid hs
      clear hs
      go_wp2
      all_goals try (go_ret; exact ⟨false, rfl, (fun h => by cases h), rfl⟩)
      go_round
      case rel => exact ⟨k1 + 1, m1 + s.size, by omega, by omega, by go_num, by go_num, Lib.hid (by have := E1.out; have := TS.out; rw [← HS.out] at this; omega)⟩
      case measure => simp [intOf]; omega
    · obtain rfl : k1 = n1 := by omega
      go_wp2
      all_goals try (go_ret; exact ⟨false, rfl, (fun h => by cases h), rfl⟩)
      go_loop [17, 19] (fun z i => ∃ k m : Nat, k ≤ n2 ∧ m ≤ 1048576 ∧ i = .int .i64 k ∧ z = .int .i64 m ∧ Hid (m = m1 + n2 + tot (l2.take k))) (fun _ i => n2 - (intOf i).toNat)
      case atStart => exact ⟨0, m1 + n2, by omega, by omega, rfl, by go_num, Lib.hid rfl⟩
      case round =>
        obtain ⟨k2, m2, hk2, hm2, rfl, rfl, E2⟩ := hrel
        by_cases hlt2 : k2 < n2
        · have hkl : k2 < l2.length := by rw [HL2.out]; exact hlt2
          obtain ⟨x, rfl, hxb, cx⟩ := HR2.out.at_ (sv_at l2 k2 hkl)
          have hz := HS2.out _ (List.getElem_mem hkl)
          unfold maxLen at hz
          have TS := Lib.hid (tot_step l2 k2 hkl)
          obtain ⟨s, hs⟩ : ∃ s, s = l2[k2] := ⟨_, rfl⟩
          rw [← hs] at cx hz
          have HS := Lib.hid hs
          clear hs
          go_wp2
          all_goals try (go_ret; exact ⟨false, rfl, (fun h => by cases h), rfl⟩)
          go_round
          case rel => exact ⟨k2 + 1, m2 + s.size, by omega, by omega, by go_num, by go_num, Lib.hid (by have := E2.out; have := TS.out; rw [← HS.out] at this; omega)⟩
          case measure => simp [intOf]; omega
        · obtain rfl : k2 = n2 := by omega
          go_wp2
          all_goals try (go_ret; exact ⟨false, rfl, (fun h => by cases h), rfl⟩)
          go_loop [17, 20] (fun z i => ∃ k m : Nat, k ≤ n3 ∧ m ≤ 1048576 ∧ i = .int .i64 k ∧ z = .int .i64 m ∧ Hid (m = m2 + n3 + tot (l3.take k))) (fun _ i => n3 - (intOf i).toNat)
          case atStart => exact ⟨0, m2 + n3, by omega, by omega, rfl, by go_num, Lib.hid rfl⟩
          case round =>
            obtain ⟨k3, m3, hk3, hm3, rfl, rfl, E3⟩ := hrel
            by_cases hlt3 : k3 < n3
            · have hkl : k3 < l3.length := by rw [HL3.out]; exact hlt3
              obtain ⟨x, rfl, hxb, cx⟩ := HR3.out.at_ (sv_at l3 k3 hkl)
              have hz := HS3.out _ (List.getElem_mem hkl)
              unfold maxLen at hz
              have TS := Lib.hid (tot_step l3 k3 hkl)
              obtain ⟨s, hs⟩ : ∃ s, s = l3[k3] := ⟨_, rfl⟩
              rw [← hs] at cx hz
              have HS := Lib.hid hs
              clear hs
              go_wp2
              all_goals try (go_ret; exact ⟨false, rfl, (fun h => by cases h), rfl⟩)
              go_round
              case rel => exact ⟨k3 + 1, m3 + s.size, by omega, by omega, by go_num, by go_num, Lib.hid (by have := E3.out; have := TS.out; rw [← HS.out] at this; omega)⟩
              case measure => simp [intOf]; omega
            · obtain rfl : k3 = n3 := by omega
              go_wp2
              all_goals try (go_ret; exact ⟨false, rfl, (fun h => by cases h), rfl⟩)
              go_loop [17, 21] (fun z i => ∃ k m : Nat, k ≤ n4 ∧ m ≤ 1048576 ∧ i = .int .i64 k ∧ z = .int .i64 m ∧ Hid (m = m3 + n4 + tot (l4.take k))) (fun _ i => n4 - (intOf i).toNat)
              case atStart => exact ⟨0, m3 + n4, by omega, by omega, rfl, by go_num, Lib.hid rfl⟩
              case round =>
                obtain ⟨k4, m4, hk4, hm4, rfl, rfl, E4⟩ := hrel
                by_cases hlt4 : k4 < n4
                · have hkl : k4 < l4.length := by rw [HL4.out]; exact hlt4
                  obtain ⟨x, rfl, hxb, cx⟩ := HR4.out.at_ (sv_at l4 k4 hkl)
                  have hz := HS4.out _ (List.getElem_mem hkl)
                  unfold maxLen at hz
                  have TS := Lib.hid (tot_step l4 k4 hkl)
                  obtain ⟨s, hs⟩ : ∃ s, s = l4[k4] := ⟨_, rfl⟩
                  rw [← hs] at cx hz
                  have HS := Lib.hid hs
                  clear hs
                  go_wp2
                  all_goals try (go_ret; exact ⟨false, rfl, (fun h => by cases h), rfl⟩)
                  go_round
                  case rel => exact ⟨k4 + 1, m4 + s.size, by omega, by omega, by go_num, by go_num, Lib.hid (by have := E4.out; have := TS.out; rw [← HS.out] at this; omega)⟩
                  case measure => simp [intOf]; omega
                · obtain rfl : k4 = n4 := by omega
                  go_wp2
                  all_goals try (go_ret; exact ⟨false, rfl, (fun h => by cases h), rfl⟩)
                  go_loop [17, 22] (fun z i => ∃ k m : Nat, k ≤ n5 ∧ m ≤ 1048576 ∧ i = .int .i64 k ∧ z = .int .i64 m ∧ Hid (m = m4 + n5 + tot (l5.take k))) (fun _ i => n5 - (intOf i).toNat)
                  case atStart => exact ⟨0, m4 + n5, by omega, by omega, rfl, by go_num, Lib.hid rfl⟩
                  case round =>
                    obtain ⟨k5, m5, hk5, hm5, rfl, rfl, E5⟩ := hrel
                    by_cases hlt5 : k5 < n5
                    · have hkl : k5 < l5.length := by rw [HL5.out]; exact hlt5
                      obtain ⟨x, rfl, hxb, cx⟩ := HR5.out.at_ (sv_at l5 k5 hkl)
                      have hz := HS5.out _ (List.getElem_mem hkl)
                      unfold maxLen at hz
                      have TS := Lib.hid (tot_step l5 k5 hkl)
                      obtain ⟨s, hs⟩ : ∃ s, s = l5[k5] := ⟨_, rfl⟩
                      rw [← hs] at cx hz
                      have HS := Lib.hid hs
                      clear hs
                      go_wp2
                      all_goals try (go_ret; exact ⟨false, rfl, (fun h => by cases h), rfl⟩)
                      go_round
                      case rel => exact ⟨k5 + 1, m5 + s.size, by omega, by omega, by go_num, by go_num, Lib.hid (by have := E5.out; have := TS.out; rw [← HS.out] at this; omega)⟩
                      case measure => simp [intOf]; omega
                    · obtain rfl : k5 = n5 := by omega
                      go_wp2
                      all_goals try (go_ret; exact ⟨false, rfl, (fun h => by cases h), rfl⟩)
                      go_loop [17, 23] (fun z i => ∃ k m : Nat, k ≤ n6 ∧ m ≤ 1048576 ∧ i = .int .i64 k ∧ z = .int .i64 m ∧ Hid (m = m5 + n6 + tot (l6.take k))) (fun _ i => n6 - (intOf i).toNat)
                      case atStart => exact ⟨0, m5 + n6, by omega, by omega, rfl, by go_num, Lib.hid rfl⟩
                      case round =>
                        obtain ⟨k6, m6, hk6, hm6, rfl, rfl, E6⟩ := hrel
                        by_cases hlt6 : k6 < n6
                        · have hkl : k6 < l6.length := by rw [HL6.out]; exact hlt6
                          obtain ⟨x, rfl, hxb, cx⟩ := HR6.out.at_ (sv_at l6 k6 hkl)
                          have hz := HS6.out _ (List.getElem_mem hkl)
                          unfold maxLen at hz
                          have TS := Lib.hid (tot_step l6 k6 hkl)
                          obtain ⟨s, hs⟩ : ∃ s, s = l6[k6] := ⟨_, rfl⟩
                          rw [← hs] at cx hz
                          have HS := Lib.hid hs
                          clear hs
                          go_wp2
                          all_goals try (go_ret; exact ⟨false, rfl, (fun h => by cases h), rfl⟩)
                          go_round
                          case rel => exact ⟨k6 + 1, m6 + s.size, by omega, by omega, by go_num, by go_num, Lib.hid (by have := E6.out; have := TS.out; rw [← HS.out] at this; omega)⟩
                          case measure => simp [intOf]; omega
                        · obtain rfl : k6 = n6 := by omega
                          go_wp2
                          all_goals first | (go_ret; exact ⟨false, rfl, (fun h => by cases h), rfl⟩) | skip
                          go_ret
                          exact ⟨true, rfl, (fun _ => by have := E1.out; rw [List.take_of_length_le (by rw [HL1.out]; omega)] at this; have := E2.out; rw [List.take_of_length_le (by rw [HL2.out]; omega)] at this; have := E3.out; rw [List.take_of_length_le (by rw [HL3.out]; omega)] at this; have := E4.out; rw [List.take_of_length_le (by rw [HL4.out]; omega)] at this; have := E5.out; rw [List.take_of_length_le (by rw [HL5.out]; omega)] at this; have := E6.out; rw [List.take_of_length_le (by rw [HL6.out]; omega)] at this; omega), rfl⟩

end Go.Proofs.YtohhbnfbdeidbaaFmt.Rvb
