/- The law FnParsePackageNameModel, walked on four of its ways. Condition: at most 2^20 bytes. -/
import Derived.Test.YtjokjiphlacglaaPkmW
namespace Go.Proofs.Ytjokjiphlacglaa.fnParsePackageNameModel
open Go.ChangeShapes Go.WideShapes Go.ChangeAt Go.RowKit Go.Proofs.Ytjokjiphlacglaa.Base Go.Proofs.Ytjokjiphlacglaa.Names Go.Proofs.Ytjokjiphlacglaa.Pct Go.Proofs.Ytjokjiphlacglaa.Pkn Go.Proofs.Ytjokjiphlacglaa.Pkj
set_option linter.unusedVariables false
set_option maxHeartbeats 1000000 in
theorem core_1_eq_dot (s : ByteArray) (k : Nat) (w : World) (hs : s.size ≤ 1048576) (h0 : 0 < s.size) (hk : Cut s k) (hkl : k = s.size) (m n : Nat)  (hpe : Lib.hasPrefix s.data.toList [64] = true) (hne : need s = 1)
    (C12 : ∀ W, Calls Try.prog 12 #[.string (s.extract 0 k), .string { data := #[46] }] W fun e w' => e = .returned (.bool true) ∧ W = w')
    (C92 : ∀ W, Calls Try.prog 13 #[.string (s.extract 0 k), .int .u8 92] W fun e w' => e = .returned (.int .i64 (m : Nat)) ∧ W = w')
    (C37 : ∀ W, Calls Try.prog 13 #[.string (s.extract 0 k), .int .u8 37] W fun e w' => e = .returned (.int .i64 (n : Nat)) ∧ W = w')
    (C : Calls Try.prog 11 #[.string s] w fun e w' => e = .returned (.tuple #[.string (s.extract 0 k), .string (({ data := #[] } : ByteArray)), .bool false]) ∧ Below w.heap.size w w') :
    Calls Try.prog 4 #[.string s] w fun e w' => e = .returned (.bool true) ∧ Below w.heap.size w w' := by
  have Y := Lib.hid (bytes10 s w (by unfold maxLen; omega))
  have hf := first s h0
  rw [hpe] at hf
  rw [show s.extract 0 k = s by rw [hkl]; exact whole s] at C12 C92 C37 C
  skip
  have he := not_empty s h0
  have he2 : (!s.toList.isEmpty) = true := by rw [he]; rfl
  have hks := hk.le
  have hsz := size_to s k hks
  have K12 := Lib.hid C12; have K92 := Lib.hid C92; have K37 := Lib.hid C37; have KC := Lib.hid C; have HK := Lib.hid hk; have HNE := Lib.hid hne
  have q1 : ((s.extract 0 k).toList == (s.extract 0 k).toList) = true := by simp
  have q3 : (s.toList == s.toList) = true := by simp
  have HCN := Lib.hid hk.cnt
  clear C12 C92 C37 C hk hpe hne
  have HKL := Lib.hid hkl
  have hkl2 : ¬ k < s.size := by omega
  clear hkl
  go_enter Try.func4, Try.ntmps4
  go_wp2_with fail
  refine Y.out.mono ?_
  rintro e w' ⟨b, rfl, hb, rfl⟩
  clear hb
  cases b
  · go_wp2
    go_ret
    exact ⟨rfl, Below.refl _ _⟩
  go_wp2_with fail
  refine KC.out.mono ?_
  rintro e w1 ⟨rfl, hb1⟩
  have HB1 := Lib.hid hb1; clear hb1
  go_wp2
  go_loop [10, 11, 12] (fun a b i => ∃ j m' : Nat, j ≤ k ∧ m' ≤ 1 ∧ a = .int .i64 m' ∧ b = .int .i64 s.size ∧ i = .int .i64 j ∧ Hid (m' = (s.data.toList.take j).count 47)) (fun _ _ i => s.size - (intOf i).toNat)
  case atStart => exact ⟨0, 0, by omega, by omega, rfl, rfl, rfl, Lib.hid rfl⟩
  case round =>
    obtain ⟨j, m', hj, hm', rfl, rfl, rfl, HM⟩ := hrel
    by_cases hlt : j < k
    · have hjs : j < s.size := by omega
      have hsn := count_snoc s 47 j hjs
      have hle := count_mono s.data.toList 47 (j + 1) k (by omega)
      by_cases hc : s[j] = 47
      · rw [if_pos hc] at hsn
        have hm2 : m' + 1 ≤ 1 := by have := HM.out; have := HCN.out; have := HNE.out; omega
        have HM2 := Lib.hid hsn
        have hc1 : ((s[j].toNat : Int) == 47) = true := by rw [hc]; rfl
        obtain rfl : m' = 0 := by omega
        clear hsn hle hc hm2
        go_wp2
        go_round
        case rel => exact ⟨j + 1, 1, by omega, by omega, by go_num, rfl, by go_num, Lib.hid (by have := HM2.out; have := HM.out; omega)⟩
        case measure => simp [intOf]; omega
      · rw [if_neg hc] at hsn
        have HM2 := Lib.hid hsn
        have hc1 : ((s[j].toNat : Int) == 47) = false := by
          rw [beq_eq_false_iff_ne]; intro h; exact hc ((u8_eq s[j] 47 (by omega)).1 h)
        clear hsn hle hc
        go_wp2
        go_round
        case rel => exact ⟨j + 1, m', by omega, by omega, by go_num, rfl, by go_num, Lib.hid (by have := HM2.out; have := HM.out; omega)⟩
        case measure => simp [intOf]; omega
    · obtain rfl : j = k := by omega
      obtain rfl : m' = 1 := by have := HM.out; have := HCN.out; have := HNE.out; omega
      go_wp2_with fail
      refine (K12.out _).mono ?_
      rintro e w' ⟨rfl, rfl⟩
      go_wp2
      go_ret
      exact ⟨rfl, HB1.out⟩
set_option maxHeartbeats 1000000 in
theorem core_1_eq_back (s : ByteArray) (k : Nat) (w : World) (hs : s.size ≤ 1048576) (h0 : 0 < s.size) (hk : Cut s k) (hkl : k = s.size) (m n : Nat) (hm : 0 < m) (hpe : Lib.hasPrefix s.data.toList [64] = true) (hne : need s = 1)
    (C12 : ∀ W, Calls Try.prog 12 #[.string (s.extract 0 k), .string { data := #[46] }] W fun e w' => e = .returned (.bool false) ∧ W = w')
    (C92 : ∀ W, Calls Try.prog 13 #[.string (s.extract 0 k), .int .u8 92] W fun e w' => e = .returned (.int .i64 (m : Nat)) ∧ W = w')
    (C37 : ∀ W, Calls Try.prog 13 #[.string (s.extract 0 k), .int .u8 37] W fun e w' => e = .returned (.int .i64 (n : Nat)) ∧ W = w')
    (C : Calls Try.prog 11 #[.string s] w fun e w' => e = .returned (.tuple #[.string (s.extract 0 k), .string (({ data := #[] } : ByteArray)), .bool false]) ∧ Below w.heap.size w w') :
    Calls Try.prog 4 #[.string s] w fun e w' => e = .returned (.bool true) ∧ Below w.heap.size w w' := by
  have Y := Lib.hid (bytes10 s w (by unfold maxLen; omega))
  have hf := first s h0
  rw [hpe] at hf
  rw [show s.extract 0 k = s by rw [hkl]; exact whole s] at C12 C92 C37 C
  skip
  have he := not_empty s h0
  have he2 : (!s.toList.isEmpty) = true := by rw [he]; rfl
  have hks := hk.le
  have hsz := size_to s k hks
  have K12 := Lib.hid C12; have K92 := Lib.hid C92; have K37 := Lib.hid C37; have KC := Lib.hid C; have HK := Lib.hid hk; have HNE := Lib.hid hne
  have q1 : ((s.extract 0 k).toList == (s.extract 0 k).toList) = true := by simp
  have q3 : (s.toList == s.toList) = true := by simp
  have HCN := Lib.hid hk.cnt
  clear C12 C92 C37 C hk hpe hne
  have HKL := Lib.hid hkl
  have hkl2 : ¬ k < s.size := by omega
  clear hkl
  go_enter Try.func4, Try.ntmps4
  go_wp2_with fail
  refine Y.out.mono ?_
  rintro e w' ⟨b, rfl, hb, rfl⟩
  clear hb
  cases b
  · go_wp2
    go_ret
    exact ⟨rfl, Below.refl _ _⟩
  go_wp2_with fail
  refine KC.out.mono ?_
  rintro e w1 ⟨rfl, hb1⟩
  have HB1 := Lib.hid hb1; clear hb1
  go_wp2
  go_loop [10, 11, 12] (fun a b i => ∃ j m' : Nat, j ≤ k ∧ m' ≤ 1 ∧ a = .int .i64 m' ∧ b = .int .i64 s.size ∧ i = .int .i64 j ∧ Hid (m' = (s.data.toList.take j).count 47)) (fun _ _ i => s.size - (intOf i).toNat)
  case atStart => exact ⟨0, 0, by omega, by omega, rfl, rfl, rfl, Lib.hid rfl⟩
  case round =>
    obtain ⟨j, m', hj, hm', rfl, rfl, rfl, HM⟩ := hrel
    by_cases hlt : j < k
    · have hjs : j < s.size := by omega
      have hsn := count_snoc s 47 j hjs
      have hle := count_mono s.data.toList 47 (j + 1) k (by omega)
      by_cases hc : s[j] = 47
      · rw [if_pos hc] at hsn
        have hm2 : m' + 1 ≤ 1 := by have := HM.out; have := HCN.out; have := HNE.out; omega
        have HM2 := Lib.hid hsn
        have hc1 : ((s[j].toNat : Int) == 47) = true := by rw [hc]; rfl
        obtain rfl : m' = 0 := by omega
        clear hsn hle hc hm2
        go_wp2
        go_round
        case rel => exact ⟨j + 1, 1, by omega, by omega, by go_num, rfl, by go_num, Lib.hid (by have := HM2.out; have := HM.out; omega)⟩
        case measure => simp [intOf]; omega
      · rw [if_neg hc] at hsn
        have HM2 := Lib.hid hsn
        have hc1 : ((s[j].toNat : Int) == 47) = false := by
          rw [beq_eq_false_iff_ne]; intro h; exact hc ((u8_eq s[j] 47 (by omega)).1 h)
        clear hsn hle hc
        go_wp2
        go_round
        case rel => exact ⟨j + 1, m', by omega, by omega, by go_num, rfl, by go_num, Lib.hid (by have := HM2.out; have := HM.out; omega)⟩
        case measure => simp [intOf]; omega
    · obtain rfl : j = k := by omega
      obtain rfl : m' = 1 := by have := HM.out; have := HCN.out; have := HNE.out; omega
      go_wp2_with fail
      refine (K12.out _).mono ?_
      rintro e w' ⟨rfl, rfl⟩
      go_wp2_with fail
      refine (K92.out _).mono ?_
      rintro e w' ⟨rfl, rfl⟩
      go_wp2
      go_ret
      exact ⟨rfl, HB1.out⟩
set_option maxHeartbeats 1000000 in
theorem core_1_eq_perc (s : ByteArray) (k : Nat) (w : World) (hs : s.size ≤ 1048576) (h0 : 0 < s.size) (hk : Cut s k) (hkl : k = s.size) (n : Nat) (hn : 0 < n) (hpe : Lib.hasPrefix s.data.toList [64] = true) (hne : need s = 1)
    (C12 : ∀ W, Calls Try.prog 12 #[.string (s.extract 0 k), .string { data := #[46] }] W fun e w' => e = .returned (.bool false) ∧ W = w')
    (C92 : ∀ W, Calls Try.prog 13 #[.string (s.extract 0 k), .int .u8 92] W fun e w' => e = .returned (.int .i64 (0 : Nat)) ∧ W = w')
    (C37 : ∀ W, Calls Try.prog 13 #[.string (s.extract 0 k), .int .u8 37] W fun e w' => e = .returned (.int .i64 (n : Nat)) ∧ W = w')
    (C : Calls Try.prog 11 #[.string s] w fun e w' => e = .returned (.tuple #[.string (s.extract 0 k), .string (({ data := #[] } : ByteArray)), .bool false]) ∧ Below w.heap.size w w') :
    Calls Try.prog 4 #[.string s] w fun e w' => e = .returned (.bool true) ∧ Below w.heap.size w w' := by
  have Y := Lib.hid (bytes10 s w (by unfold maxLen; omega))
  have hf := first s h0
  rw [hpe] at hf
  rw [show s.extract 0 k = s by rw [hkl]; exact whole s] at C12 C92 C37 C
  skip
  have he := not_empty s h0
  have he2 : (!s.toList.isEmpty) = true := by rw [he]; rfl
  have hks := hk.le
  have hsz := size_to s k hks
  have K12 := Lib.hid C12; have K92 := Lib.hid C92; have K37 := Lib.hid C37; have KC := Lib.hid C; have HK := Lib.hid hk; have HNE := Lib.hid hne
  have q1 : ((s.extract 0 k).toList == (s.extract 0 k).toList) = true := by simp
  have q3 : (s.toList == s.toList) = true := by simp
  have HCN := Lib.hid hk.cnt
  clear C12 C92 C37 C hk hpe hne
  have HKL := Lib.hid hkl
  have hkl2 : ¬ k < s.size := by omega
  clear hkl
  go_enter Try.func4, Try.ntmps4
  go_wp2_with fail
  refine Y.out.mono ?_
  rintro e w' ⟨b, rfl, hb, rfl⟩
  clear hb
  cases b
  · go_wp2
    go_ret
    exact ⟨rfl, Below.refl _ _⟩
  go_wp2_with fail
  refine KC.out.mono ?_
  rintro e w1 ⟨rfl, hb1⟩
  have HB1 := Lib.hid hb1; clear hb1
  go_wp2
  go_loop [10, 11, 12] (fun a b i => ∃ j m' : Nat, j ≤ k ∧ m' ≤ 1 ∧ a = .int .i64 m' ∧ b = .int .i64 s.size ∧ i = .int .i64 j ∧ Hid (m' = (s.data.toList.take j).count 47)) (fun _ _ i => s.size - (intOf i).toNat)
  case atStart => exact ⟨0, 0, by omega, by omega, rfl, rfl, rfl, Lib.hid rfl⟩
  case round =>
    obtain ⟨j, m', hj, hm', rfl, rfl, rfl, HM⟩ := hrel
    by_cases hlt : j < k
    · have hjs : j < s.size := by omega
      have hsn := count_snoc s 47 j hjs
      have hle := count_mono s.data.toList 47 (j + 1) k (by omega)
      by_cases hc : s[j] = 47
      · rw [if_pos hc] at hsn
        have hm2 : m' + 1 ≤ 1 := by have := HM.out; have := HCN.out; have := HNE.out; omega
        have HM2 := Lib.hid hsn
        have hc1 : ((s[j].toNat : Int) == 47) = true := by rw [hc]; rfl
        obtain rfl : m' = 0 := by omega
        clear hsn hle hc hm2
        go_wp2
        go_round
        case rel => exact ⟨j + 1, 1, by omega, by omega, by go_num, rfl, by go_num, Lib.hid (by have := HM2.out; have := HM.out; omega)⟩
        case measure => simp [intOf]; omega
      · rw [if_neg hc] at hsn
        have HM2 := Lib.hid hsn
        have hc1 : ((s[j].toNat : Int) == 47) = false := by
          rw [beq_eq_false_iff_ne]; intro h; exact hc ((u8_eq s[j] 47 (by omega)).1 h)
        clear hsn hle hc
        go_wp2
        go_round
        case rel => exact ⟨j + 1, m', by omega, by omega, by go_num, rfl, by go_num, Lib.hid (by have := HM2.out; have := HM.out; omega)⟩
        case measure => simp [intOf]; omega
    · obtain rfl : j = k := by omega
      obtain rfl : m' = 1 := by have := HM.out; have := HCN.out; have := HNE.out; omega
      go_wp2_with fail
      refine (K12.out _).mono ?_
      rintro e w' ⟨rfl, rfl⟩
      go_wp2_with fail
      refine (K92.out _).mono ?_
      rintro e w' ⟨rfl, rfl⟩
      go_wp2_with fail
      refine (K37.out _).mono ?_
      rintro e w' ⟨rfl, rfl⟩
      go_wp2
      go_ret
      exact ⟨rfl, HB1.out⟩
set_option maxHeartbeats 1000000 in
theorem core_1_eq_none (s : ByteArray) (k : Nat) (w : World) (hs : s.size ≤ 1048576) (h0 : 0 < s.size) (hk : Cut s k) (hkl : k = s.size)   (hpe : Lib.hasPrefix s.data.toList [64] = true) (hne : need s = 1)
    (C12 : ∀ W, Calls Try.prog 12 #[.string (s.extract 0 k), .string { data := #[46] }] W fun e w' => e = .returned (.bool false) ∧ W = w')
    (C92 : ∀ W, Calls Try.prog 13 #[.string (s.extract 0 k), .int .u8 92] W fun e w' => e = .returned (.int .i64 (0 : Nat)) ∧ W = w')
    (C37 : ∀ W, Calls Try.prog 13 #[.string (s.extract 0 k), .int .u8 37] W fun e w' => e = .returned (.int .i64 (0 : Nat)) ∧ W = w')
    (C : Calls Try.prog 11 #[.string s] w fun e w' => e = .returned (.tuple #[.string (s.extract 0 k), .string (({ data := #[46] } : ByteArray) ++ s.extract k s.size), .bool true]) ∧ Below w.heap.size w w') :
    Calls Try.prog 4 #[.string s] w fun e w' => e = .returned (.bool true) ∧ Below w.heap.size w w' := by
  have Y := Lib.hid (bytes10 s w (by unfold maxLen; omega))
  have hf := first s h0
  rw [hpe] at hf
  rw [show s.extract 0 k = s by rw [hkl]; exact whole s] at C12 C92 C37 C
  rw [show s.extract k s.size = ByteArray.empty by rw [hkl]; exact empty_end s] at C
  have he := not_empty s h0
  have he2 : (!s.toList.isEmpty) = true := by rw [he]; rfl
  have hks := hk.le
  have hsz := size_to s k hks
  have K12 := Lib.hid C12; have K92 := Lib.hid C92; have K37 := Lib.hid C37; have KC := Lib.hid C; have HK := Lib.hid hk; have HNE := Lib.hid hne
  have q1 : ((s.extract 0 k).toList == (s.extract 0 k).toList) = true := by simp
  have q3 : (s.toList == s.toList) = true := by simp
  have HCN := Lib.hid hk.cnt
  clear C12 C92 C37 C hk hpe hne
  have HKL := Lib.hid hkl
  have hkl2 : ¬ k < s.size := by omega
  clear hkl
  go_enter Try.func4, Try.ntmps4
  go_wp2_with fail
  refine Y.out.mono ?_
  rintro e w' ⟨b, rfl, hb, rfl⟩
  clear hb
  cases b
  · go_wp2
    go_ret
    exact ⟨rfl, Below.refl _ _⟩
  go_wp2_with fail
  refine KC.out.mono ?_
  rintro e w1 ⟨rfl, hb1⟩
  have HB1 := Lib.hid hb1; clear hb1
  go_wp2
  go_loop [10, 11, 12] (fun a b i => ∃ j m' : Nat, j ≤ k ∧ m' ≤ 1 ∧ a = .int .i64 m' ∧ b = .int .i64 s.size ∧ i = .int .i64 j ∧ Hid (m' = (s.data.toList.take j).count 47)) (fun _ _ i => s.size - (intOf i).toNat)
  case atStart => exact ⟨0, 0, by omega, by omega, rfl, rfl, rfl, Lib.hid rfl⟩
  case round =>
    obtain ⟨j, m', hj, hm', rfl, rfl, rfl, HM⟩ := hrel
    by_cases hlt : j < k
    · have hjs : j < s.size := by omega
      have hsn := count_snoc s 47 j hjs
      have hle := count_mono s.data.toList 47 (j + 1) k (by omega)
      by_cases hc : s[j] = 47
      · rw [if_pos hc] at hsn
        have hm2 : m' + 1 ≤ 1 := by have := HM.out; have := HCN.out; have := HNE.out; omega
        have HM2 := Lib.hid hsn
        have hc1 : ((s[j].toNat : Int) == 47) = true := by rw [hc]; rfl
        obtain rfl : m' = 0 := by omega
        clear hsn hle hc hm2
        go_wp2
        go_round
        case rel => exact ⟨j + 1, 1, by omega, by omega, by go_num, rfl, by go_num, Lib.hid (by have := HM2.out; have := HM.out; omega)⟩
        case measure => simp [intOf]; omega
      · rw [if_neg hc] at hsn
        have HM2 := Lib.hid hsn
        have hc1 : ((s[j].toNat : Int) == 47) = false := by
          rw [beq_eq_false_iff_ne]; intro h; exact hc ((u8_eq s[j] 47 (by omega)).1 h)
        clear hsn hle hc
        go_wp2
        go_round
        case rel => exact ⟨j + 1, m', by omega, by omega, by go_num, rfl, by go_num, Lib.hid (by have := HM2.out; have := HM.out; omega)⟩
        case measure => simp [intOf]; omega
    · obtain rfl : j = k := by omega
      obtain rfl : m' = 1 := by have := HM.out; have := HCN.out; have := HNE.out; omega
      go_wp2_with fail
      refine (K12.out _).mono ?_
      rintro e w' ⟨rfl, rfl⟩
      go_wp2_with fail
      refine (K92.out _).mono ?_
      rintro e w' ⟨rfl, rfl⟩
      go_wp2_with fail
      refine (K37.out _).mono ?_
      rintro e w' ⟨rfl, rfl⟩
      go_wp2
      go_ret
      exact ⟨rfl, HB1.out⟩
end Go.Proofs.Ytjokjiphlacglaa.fnParsePackageNameModel
