/- The walk of the law FnParseBareIdentifierSpec: for every string it returns true. No condition. -/
import Derived.Test.YtjokjiphlacglaaNames
namespace Go.Proofs.Ytjokjiphlacglaa.fnParseBareIdentifierSpec
open Go.ChangeShapes Go.WideShapes Go.ChangeAt Go.RowKit Go.Proofs.Ytjokjiphlacglaa.Base Go.Proofs.Ytjokjiphlacglaa.Names
set_option linter.unusedVariables false

theorem pre_yes (s : ByteArray) (h : Lib.hasPrefix s.data.toList [64] = true) : ∃ h0 : 0 < s.size, (s[0].toNat : Int) = 64 := by
  obtain ⟨r, hr⟩ := List.isPrefixOf_iff_prefix.1 h
  have hl : s.size = 1 + r.length := by rw [← len_list, ← hr]; simp; omega
  refine ⟨by omega, ?_⟩
  have h1 := get_list? s 0 (by omega)
  rw [← hr] at h1
  simp at h1; rw [← h1]; rfl
theorem pre_no (s : ByteArray) (h : ¬ Lib.hasPrefix s.data.toList [64] = true) (h0 : 0 < s.size) : ¬ (s[0].toNat : Int) = 64 := by
  intro hc
  apply h
  have e := (u8_eq s[0] 64 (by omega)).1 hc
  unfold Lib.hasPrefix
  rw [List.isPrefixOf_iff_prefix, List.prefix_iff_eq_take]
  have h1 := get_list? s 0 h0
  cases hl : s.data.toList with
  | nil => rw [hl] at h1; simp at h1
  | cons a t => rw [hl, e] at h1; simp at h1; subst h1; simp
theorem refuse (s : ByteArray) (w : World) (hs : s.size ≤ 1048576) (h0 : 0 < s.size) (h64 : (s[0].toNat : Int) = 64) (hcnt : hasB s = false)
    (H : Hid (∀ w, Calls Try.prog 7 #[.string s] w fun e w' => e = .returned (.tuple #[.string { data := #[] }, .string { data := #[] }, .bool false]) ∧ w = w')) :
    Calls Try.prog 3 #[.string s] w fun e w' => e = .returned (.bool true) ∧ Below w.heap.size w w' := by
  have h1 : ((s[0].toNat : Int) == 64) = true := by rw [beq_iff_eq]; exact h64
  have HS := Lib.hid (show s.size ≤ 9223372036854775807 by omega)
  clear h64
  go_enter Try.func3, Try.ntmps3
  go_wp2_with (first | (go_at_call 6; go_in) | (go_at_call 7; refine (H.out _).mono ?_; rintro e w' ⟨rfl, rfl⟩) | (go_at_call 8; refine (has_any _ _ HS.out).mono ?_; rintro e w' ⟨rfl, rfl⟩))
  go_ret
  exact ⟨rfl, Below.refl _ _⟩
theorem sc_end (s : ByteArray) (w : World) (hs : s.size ≤ 1048576) (k : Nat)
    (H : Hid (∀ w, Calls Try.prog 7 #[.string s] w fun e w' => e = .returned (.tuple #[.string (s.extract 0 k), .string (s.extract k s.size), .bool true]) ∧ w = w'))
    (H9 : Hid (∀ w, Calls Try.prog 9 #[.string (s.extract 0 k), .int .u8 47] w fun e w' => e = .returned (.int .i64 1) ∧ w = w'))
    (h0 : 0 < s.size) (h64 : ((s[0].toNat : Int) == 64) = true) (hcnt : hasB s = true)
    (m1 : (s.extract k s.size).toList = []) (m2 : (s.extract k s.size).toList.isEmpty = true) (hk : k ≤ s.size) :
    Calls Try.prog 3 #[.string s] w fun e w' => e = .returned (.bool true) ∧ Below w.heap.size w w' := by
  have HS := Lib.hid (show s.size ≤ 9223372036854775807 by omega)
  have hk' : k ≤ s.size := by omega
  have hsum : ((k : Int) + ((s.size - k : Nat) : Int) != (s.size : Int)) = false := by rw [bne_eq_false_iff_eq]; omega
  go_enter Try.func3, Try.ntmps3
  go_wp2_with (first | (go_at_call 6; go_in) | (go_at_call 7; refine (H.out _).mono ?_; rintro e w' ⟨rfl, rfl⟩) | (go_at_call 8; refine (has_any _ _ HS.out).mono ?_; rintro e w' ⟨rfl, rfl⟩) | (go_at_call 9; refine (H9.out _).mono ?_; rintro e w' ⟨rfl, rfl⟩))
  go_ret
  exact ⟨rfl, Below.refl _ _⟩
theorem sc_mid (s : ByteArray) (w : World) (hs : s.size ≤ 1048576) (k : Nat)
    (H : Hid (∀ w, Calls Try.prog 7 #[.string s] w fun e w' => e = .returned (.tuple #[.string (s.extract 0 k), .string (s.extract k s.size), .bool true]) ∧ w = w'))
    (H9 : Hid (∀ w, Calls Try.prog 9 #[.string (s.extract 0 k), .int .u8 47] w fun e w' => e = .returned (.int .i64 1) ∧ w = w'))
    (h0 : 0 < s.size) (h64 : ((s[0].toNat : Int) == 64) = true) (hcnt : hasB s = true)
    (m1 : ¬ (s.extract k s.size).toList = []) (m2 : (s.extract k s.size).toList.isEmpty = false) (hk : k < s.size) (m0 : 0 < s.size - k) (mz : 0 < (s.extract k s.size).size) (m3 : (((s.extract k s.size)[0]'mz).toNat : Int) = 47) :
    Calls Try.prog 3 #[.string s] w fun e w' => e = .returned (.bool true) ∧ Below w.heap.size w w' := by
  have m4 : ((((s.extract k s.size)[0]'mz).toNat : Int) != 47) = false := by rw [bne_eq_false_iff_eq]; exact m3
  clear m3
  have HS := Lib.hid (show s.size ≤ 9223372036854775807 by omega)
  have hk' : k ≤ s.size := by omega
  have hsum : ((k : Int) + ((s.size - k : Nat) : Int) != (s.size : Int)) = false := by rw [bne_eq_false_iff_eq]; omega
  go_enter Try.func3, Try.ntmps3
  go_wp2_with (first | (go_at_call 6; go_in) | (go_at_call 7; refine (H.out _).mono ?_; rintro e w' ⟨rfl, rfl⟩) | (go_at_call 8; refine (has_any _ _ HS.out).mono ?_; rintro e w' ⟨rfl, rfl⟩) | (go_at_call 9; refine (H9.out _).mono ?_; rintro e w' ⟨rfl, rfl⟩))
  go_ret
  exact ⟨rfl, Below.refl _ _⟩
theorem us_end (s : ByteArray) (w : World) (hs : s.size ≤ 1048576) (k : Nat)
    (H : Hid (∀ w, Calls Try.prog 7 #[.string s] w fun e w' => e = .returned (.tuple #[.string (s.extract 0 k), .string (s.extract k s.size), .bool true]) ∧ w = w'))
    (H9 : Hid (∀ w, Calls Try.prog 9 #[.string (s.extract 0 k), .int .u8 47] w fun e w' => e = .returned (.int .i64 0) ∧ w = w'))
    (h0 : 0 < s.size) (h64 : ((s[0].toNat : Int) == 64) = false)
    (m1 : (s.extract k s.size).toList = []) (m2 : (s.extract k s.size).toList.isEmpty = true) (hk : k ≤ s.size) :
    Calls Try.prog 3 #[.string s] w fun e w' => e = .returned (.bool true) ∧ Below w.heap.size w w' := by
  have HS := Lib.hid (show s.size ≤ 9223372036854775807 by omega)
  have hk' : k ≤ s.size := by omega
  have hsum : ((k : Int) + ((s.size - k : Nat) : Int) != (s.size : Int)) = false := by rw [bne_eq_false_iff_eq]; omega
  go_enter Try.func3, Try.ntmps3
  go_wp2_with (first | (go_at_call 6; go_in) | (go_at_call 7; refine (H.out _).mono ?_; rintro e w' ⟨rfl, rfl⟩) | (go_at_call 8; refine (has_any _ _ HS.out).mono ?_; rintro e w' ⟨rfl, rfl⟩) | (go_at_call 9; refine (H9.out _).mono ?_; rintro e w' ⟨rfl, rfl⟩))
  go_ret
  exact ⟨rfl, Below.refl _ _⟩
theorem us_mid (s : ByteArray) (w : World) (hs : s.size ≤ 1048576) (k : Nat)
    (H : Hid (∀ w, Calls Try.prog 7 #[.string s] w fun e w' => e = .returned (.tuple #[.string (s.extract 0 k), .string (s.extract k s.size), .bool true]) ∧ w = w'))
    (H9 : Hid (∀ w, Calls Try.prog 9 #[.string (s.extract 0 k), .int .u8 47] w fun e w' => e = .returned (.int .i64 0) ∧ w = w'))
    (h0 : 0 < s.size) (h64 : ((s[0].toNat : Int) == 64) = false)
    (m1 : ¬ (s.extract k s.size).toList = []) (m2 : (s.extract k s.size).toList.isEmpty = false) (hk : k < s.size) (m0 : 0 < s.size - k) (mz : 0 < (s.extract k s.size).size) (m3 : (((s.extract k s.size)[0]'mz).toNat : Int) = 47) :
    Calls Try.prog 3 #[.string s] w fun e w' => e = .returned (.bool true) ∧ Below w.heap.size w w' := by
  have m4 : ((((s.extract k s.size)[0]'mz).toNat : Int) != 47) = false := by rw [bne_eq_false_iff_eq]; exact m3
  clear m3
  have HS := Lib.hid (show s.size ≤ 9223372036854775807 by omega)
  have hk' : k ≤ s.size := by omega
  have hsum : ((k : Int) + ((s.size - k : Nat) : Int) != (s.size : Int)) = false := by rw [bne_eq_false_iff_eq]; omega
  go_enter Try.func3, Try.ntmps3
  go_wp2_with (first | (go_at_call 6; go_in) | (go_at_call 7; refine (H.out _).mono ?_; rintro e w' ⟨rfl, rfl⟩) | (go_at_call 8; refine (has_any _ _ HS.out).mono ?_; rintro e w' ⟨rfl, rfl⟩) | (go_at_call 9; refine (H9.out _).mono ?_; rintro e w' ⟨rfl, rfl⟩))
  go_ret
  exact ⟨rfl, Below.refl _ _⟩
theorem em_end (s : ByteArray) (w : World) (hs : s.size ≤ 1048576) (k : Nat)
    (H : Hid (∀ w, Calls Try.prog 7 #[.string s] w fun e w' => e = .returned (.tuple #[.string (s.extract 0 k), .string (s.extract k s.size), .bool true]) ∧ w = w'))
    (H9 : Hid (∀ w, Calls Try.prog 9 #[.string (s.extract 0 k), .int .u8 47] w fun e w' => e = .returned (.int .i64 0) ∧ w = w'))
    (h0 : s.size ≤ 0)
    (m1 : (s.extract k s.size).toList = []) (m2 : (s.extract k s.size).toList.isEmpty = true) (hk : k ≤ s.size) :
    Calls Try.prog 3 #[.string s] w fun e w' => e = .returned (.bool true) ∧ Below w.heap.size w w' := by
  have HS := Lib.hid (show s.size ≤ 9223372036854775807 by omega)
  have hk' : k ≤ s.size := by omega
  have hsum : ((k : Int) + ((s.size - k : Nat) : Int) != (s.size : Int)) = false := by rw [bne_eq_false_iff_eq]; omega
  go_enter Try.func3, Try.ntmps3
  go_wp2_with (first | (go_at_call 6; go_in) | (go_at_call 7; refine (H.out _).mono ?_; rintro e w' ⟨rfl, rfl⟩) | (go_at_call 8; refine (has_any _ _ HS.out).mono ?_; rintro e w' ⟨rfl, rfl⟩) | (go_at_call 9; refine (H9.out _).mono ?_; rintro e w' ⟨rfl, rfl⟩))
  go_ret
  exact ⟨rfl, Below.refl _ _⟩
theorem count_at (s : ByteArray) (k n : Nat) (hs : s.size ≤ 1048576) (hk : k ≤ s.size) (h : (s.data.toList.take k).count 47 = n) (w : World) :
    Calls Try.prog 9 #[.string (s.extract 0 k), .int .u8 47] w fun e w' => e = .returned (.int .i64 n) ∧ w = w' := by
  have hc := count_any9 47 (s.extract 0 k) w (by rw [ByteArray.size_extract]; omega)
  have e : cntB 47 (s.extract 0 k) = n := by unfold cntB; rw [Lib.extract_data, ← h]; simp
  rw [e] at hc
  exact hc
theorem walk (a0 : ByteArray) (w : World) (w0 : a0.size ≤ maxLen) :
    Calls Try.prog 3 #[.string a0] w fun e w' => e = .returned (.bool true) ∧ Below w.heap.size w w' := by
  unfold maxLen at w0
  by_cases hs : a0.size ≤ 1048576
  · rcases bare_any a0 (by omega) with ⟨h1, h2, h3⟩ | ⟨h1, k, hk, hk1, hk2, hk3⟩
    · obtain ⟨h0, h64⟩ := pre_yes a0 h1
      exact refuse a0 w hs h0 h64 (by unfold hasB; rw [h2]; rfl) (Lib.hid h3)
    · have hmid : k < a0.size → ∃ mz : 0 < (a0.extract k a0.size).size, (((a0.extract k a0.size)[0]'mz).toNat : Int) = 47 := by
        intro hlt
        have mz : 0 < (a0.extract k a0.size).size := by rw [ByteArray.size_extract]; omega
        refine ⟨mz, ?_⟩
        rw [if_pos hlt] at hk1
        have h5 := get_list? (a0.extract k a0.size) 0 mz
        rw [Lib.extract_data, List.getElem?_take_of_lt (by omega), List.getElem?_drop, Nat.add_zero, hk1] at h5
        simp at h5; rw [← h5]; rfl
      have hend : ¬ k < a0.size → (a0.extract k a0.size).toList = [] := by
        intro hge; rw [Lib.extract_toList]; simp; omega
      have hne : k < a0.size → ¬ (a0.extract k a0.size).toList = [] := by
        intro hlt hc
        have := congrArg List.length hc
        rw [Lib.extract_toList] at this; simp at this; omega
      by_cases hp : Lib.hasPrefix a0.data.toList [64] = true
      · obtain ⟨h0, h64⟩ := pre_yes a0 hp
        rw [if_pos hp] at hk2
        have H9 := Lib.hid (count_at a0 k 1 hs hk hk2)
        have hB : hasB a0 = true := by unfold hasB; simpa using h1 hp
        by_cases hlt : k < a0.size
        · obtain ⟨mz, m3⟩ := hmid hlt
          exact sc_mid a0 w hs k (Lib.hid hk3) H9 h0 (by rw [beq_iff_eq]; exact h64) hB (hne hlt) (by simpa using hne hlt) hlt (by omega) mz m3
        · exact sc_end a0 w hs k (Lib.hid hk3) H9 h0 (by rw [beq_iff_eq]; exact h64) hB (hend hlt) (by rw [hend hlt]; rfl) hk
      · rw [if_neg hp] at hk2
        have H9 := Lib.hid (count_at a0 k 0 hs hk hk2)
        by_cases h0 : 0 < a0.size
        · have h64 : ((a0[0].toNat : Int) == 64) = false := by rw [beq_eq_false_iff_ne]; exact pre_no a0 hp h0
          by_cases hlt : k < a0.size
          · obtain ⟨mz, m3⟩ := hmid hlt
            exact us_mid a0 w hs k (Lib.hid hk3) H9 h0 h64 (hne hlt) (by simpa using hne hlt) hlt (by omega) mz m3
          · exact us_end a0 w hs k (Lib.hid hk3) H9 h0 h64 (hend hlt) (by rw [hend hlt]; rfl) hk
        · exact em_end a0 w hs k (Lib.hid hk3) H9 (by omega) (hend (by omega)) (by rw [hend (by omega)]; rfl) hk
  · go_enter Try.func3, Try.ntmps3
    go_wp2_with (go_at_call 6; go_in)
    go_ret
    exact ⟨rfl, Below.refl _ _⟩
end Go.Proofs.Ytjokjiphlacglaa.fnParseBareIdentifierSpec
