/- The callees of the laws over package names by their contracts: the models hasByte and countByte, and parseBareIdentifier. Conditions: lengths that fit an int. -/
import Derived.Test.YtjokjiphlacglaaRows
import Derived.Test.YtjokjiphlacglaaBase
import Derived.Test.YtjokjiphlacglaaShelf
import Derived.WalkKit
import Derived.ProofKit
import Derived.OpenShut
import Derived.ShutString
import Derived.WalkLawsBesides
import Derived.WalkSpells
import Derived.Handy
import Derived.Outline
import Derived.Deep.QuietTactic
import Derived.BigQuiet
import Derived.Lib.IndexLaws
namespace Go.Proofs.Ytjokjiphlacglaa.Names
open Go.ChangeShapes Go.WideShapes Go.ChangeAt Go.RowKit Go.Proofs.Ytjokjiphlacglaa.Base
set_option linter.unusedVariables false

/-! ### PLAIN -/
theorem idx (c : UInt8) : ∀ l : List UInt8, (Lib.indexByte l c = -1 ∧ l.count c = 0) ∨ ∃ o : Nat, Lib.indexByte l c = o ∧ o < l.length ∧ (l.take o).count c = 0 ∧ l[o]? = some c
  | [] => .inl ⟨rfl, rfl⟩
  | b :: l => by
    by_cases h : b = c
    · subst h
      right
      exact ⟨0, by simp [Lib.indexByte], by simp, by simp, by simp⟩
    · have hb : (b == c) = false := by simpa using h
      rcases idx c l with ⟨h1, h2⟩ | ⟨o, h1, h2, h3, h4⟩
      · left
        exact ⟨by simp [Lib.indexByte, hb, h1], by rw [List.count_cons, hb, h2]; rfl⟩
      · right
        refine ⟨o + 1, ?_, by simp; omega, ?_, by simpa using h4⟩
        · simp only [Lib.indexByte, hb, h1]
          rw [if_neg (by decide), if_neg (by simp)]; rfl
        · rw [List.take_succ_cons, List.count_cons, hb, h3]; rfl
theorem count_snoc (s : ByteArray) (c : UInt8) (k : Nat) (h : k < s.size) : (s.data.toList.take (k + 1)).count c = (s.data.toList.take k).count c + if s[k] = c then 1 else 0 := by
  rw [List.take_succ_eq_append_getElem (by simpa using h), get_list s k h, List.count_append]
  by_cases e : s[k] = c <;> simp [e]
theorem count_le (l : List UInt8) (c : UInt8) : l.count c ≤ l.length := List.count_le_length
theorem count_pos (s : ByteArray) (c : UInt8) (k : Nat) (h : k < s.size) (e : s[k] = c) : 0 < s.data.toList.count c := by
  rw [List.count_pos_iff]
  have := List.mem_of_getElem? (get_list? s k h)
  rw [e] at this; exact this

def hasB (s : ByteArray) : Bool := decide (0 < s.data.toList.count 47)
def cntB (c : UInt8) (s : ByteArray) : Nat := s.data.toList.count c

/-! ### THE MODELS -/
theorem has_any (s : ByteArray) (w : World) (hs : s.size ≤ 9223372036854775807) :
    Calls Try.prog 8 #[.string s, .int .u8 47] w fun e w' => e = .returned (.bool (hasB s)) ∧ w = w' := by
  obtain ⟨b, hb⟩ : ∃ b, b = hasB s := ⟨_, rfl⟩
  rw [← hb]
  unfold hasB at hb
  have HB := Lib.hid hb; clear hb
  go_enter Try.func8, Try.ntmps8
  go_wp2
  go_loop [5] (fun i => ∃ k : Nat, k ≤ s.size ∧ Hid ((s.data.toList.take k).count 47 = 0) ∧ i = .int .i64 k) (fun i => s.size - (intOf i).toNat)
  case atStart => exact ⟨0, by omega, Lib.hid (by simp), rfl⟩
  case round =>
    obtain ⟨k, hk, HK, rfl⟩ := hrel
    by_cases hlt : k < s.size
    · have e := u8_eq s[k] 47 (by omega)
      have hsn := count_snoc s 47 k hlt
      by_cases hc : (s[k].toNat : Int) = 47
      · have hc1 : ((s[k].toNat : Int) == 47) = true := by rw [beq_iff_eq]; exact hc
        have H1 := Lib.hid (count_pos s 47 k hlt (e.1 hc))
        clear hc hsn e
        go_wp2
        go_ret
        exact ⟨ret_bool (by rw [HB.out]; simpa using H1.out), rfl⟩
      · have hc1 : ((s[k].toNat : Int) == 47) = false := by rw [beq_eq_false_iff_ne]; exact hc
        have HK2 := Lib.hid (show (s.data.toList.take (k + 1)).count 47 = 0 by
          rw [hsn, HK.out, if_neg (show ¬ s[k] = 47 from fun h => hc (e.2 h))])
        clear hc hsn e
        go_wp2
        go_round
        case rel => exact ⟨k + 1, by omega, HK2, by go_num⟩
        case measure => simp [intOf]; omega
    · have H1 := Lib.hid (show s.data.toList.count 47 = 0 by
        have e := HK.out
        rw [List.take_of_length_le (by rw [len_list]; omega)] at e; exact e)
      go_wp2
      go_ret
      exact ⟨ret_bool (by rw [HB.out]; simp [H1.out]), rfl⟩
theorem count_any9 (c : UInt8) (s : ByteArray) (w : World) (hs : s.size ≤ 9223372036854775807) :
    Calls Try.prog 9 #[.string s, .int .u8 (c.toNat : Int)] w fun e w' => e = .returned (.int .i64 (cntB c s)) ∧ w = w' := by
  obtain ⟨b, hb⟩ : ∃ b : Int, b = cntB c s := ⟨_, rfl⟩
  rw [← hb]
  unfold cntB at hb
  have HB := Lib.hid hb; clear hb
  go_enter Try.func9, Try.ntmps9
  go_wp2
  go_loop [5, 6] (fun n i => ∃ k m : Nat, k ≤ s.size ∧ m ≤ k ∧ Hid ((s.data.toList.take k).count c = m) ∧ n = .int .i64 m ∧ i = .int .i64 k) (fun _ i => s.size - (intOf i).toNat)
  case atStart => exact ⟨0, 0, by omega, by omega, Lib.hid (by simp), rfl, rfl⟩
  case round =>
    obtain ⟨k, m, hk, hm, HK, rfl, rfl⟩ := hrel
    by_cases hlt : k < s.size
    · have hsn := count_snoc s c k hlt
      by_cases hc : s[k] = c
      · have hc1 : ((s[k].toNat : Int) == (c.toNat : Int)) = true := by rw [hc]; simp
        have HK2 := Lib.hid (show (s.data.toList.take (k + 1)).count c = m + 1 by rw [hsn, HK.out, if_pos hc])
        clear hc hsn
        go_wp2
        go_round
        case rel => exact ⟨k + 1, m + 1, by omega, by omega, HK2, by go_num, by go_num⟩
        case measure => simp [intOf]; omega
      · have hc1 : ((s[k].toNat : Int) == (c.toNat : Int)) = false := by
          rw [beq_eq_false_iff_ne]; intro h; exact hc (UInt8.toNat_inj.1 (by omega))
        have HK2 := Lib.hid (show (s.data.toList.take (k + 1)).count c = m by rw [hsn, HK.out, if_neg hc]; rfl)
        clear hc hsn
        go_wp2
        go_round
        case rel => exact ⟨k + 1, m, by omega, by omega, HK2, by go_num, by go_num⟩
        case measure => simp [intOf]; omega
    · have H1 := Lib.hid (show s.data.toList.count c = m by
        have e := HK.out
        rw [List.take_of_length_le (by rw [len_list]; omega)] at e; exact e)
      go_wp2
      go_ret
      exact ⟨ret_int (by rw [HB.out, H1.out]), rfl⟩
theorem count_any13 (c : UInt8) (s : ByteArray) (w : World) (hs : s.size ≤ 9223372036854775807) :
    Calls Try.prog 13 #[.string s, .int .u8 (c.toNat : Int)] w fun e w' => e = .returned (.int .i64 (cntB c s)) ∧ w = w' := by
  obtain ⟨b, hb⟩ : ∃ b : Int, b = cntB c s := ⟨_, rfl⟩
  rw [← hb]
  unfold cntB at hb
  have HB := Lib.hid hb; clear hb
  go_enter Try.func13, Try.ntmps13
  go_wp2
  go_loop [5, 6] (fun n i => ∃ k m : Nat, k ≤ s.size ∧ m ≤ k ∧ Hid ((s.data.toList.take k).count c = m) ∧ n = .int .i64 m ∧ i = .int .i64 k) (fun _ i => s.size - (intOf i).toNat)
  case atStart => exact ⟨0, 0, by omega, by omega, Lib.hid (by simp), rfl, rfl⟩
  case round =>
    obtain ⟨k, m, hk, hm, HK, rfl, rfl⟩ := hrel
    by_cases hlt : k < s.size
    · have hsn := count_snoc s c k hlt
      by_cases hc : s[k] = c
      · have hc1 : ((s[k].toNat : Int) == (c.toNat : Int)) = true := by rw [hc]; simp
        have HK2 := Lib.hid (show (s.data.toList.take (k + 1)).count c = m + 1 by rw [hsn, HK.out, if_pos hc])
        clear hc hsn
        go_wp2
        go_round
        case rel => exact ⟨k + 1, m + 1, by omega, by omega, HK2, by go_num, by go_num⟩
        case measure => simp [intOf]; omega
      · have hc1 : ((s[k].toNat : Int) == (c.toNat : Int)) = false := by
          rw [beq_eq_false_iff_ne]; intro h; exact hc (UInt8.toNat_inj.1 (by omega))
        have HK2 := Lib.hid (show (s.data.toList.take (k + 1)).count c = m by rw [hsn, HK.out, if_neg hc]; rfl)
        clear hc hsn
        go_wp2
        go_round
        case rel => exact ⟨k + 1, m, by omega, by omega, HK2, by go_num, by go_num⟩
        case measure => simp [intOf]; omega
    · have H1 := Lib.hid (show s.data.toList.count c = m by
        have e := HK.out
        rw [List.take_of_length_le (by rw [len_list]; omega)] at e; exact e)
      go_wp2
      go_ret
      exact ⟨ret_int (by rw [HB.out, H1.out]), rfl⟩

/-! ### parseBareIdentifier -/
theorem whole (s : ByteArray) : s.extract 0 s.size = s := by apply ext_list; rw [Lib.extract_data]; simp [List.take_of_length_le]
theorem bare_no (s : ByteArray) (w : World) (hs : s.size ≤ 9223372036854775807) (h : Lib.hasPrefix s.data.toList [64] = true) (hi : Lib.indexByte s.data.toList 47 = -1) :
    Calls Try.prog 15 #[.string s] w fun e w' => e = .returned (.tuple #[.string { data := #[] }, .string { data := #[] }, .bool false]) ∧ w = w' := by
  have h1 : ((-1 : Int) == -1) = true := by decide
  go_enter Try.func15, Try.ntmps15
  go_wp2_with (first | (go_at_call 17; refine (Try.strings_IndexByte _ _ _).mono ?_; rintro e w' ⟨rfl, rfl⟩) | (go_at_call 18; refine (Try.strings_HasPrefix _ _ _).mono ?_; rintro e w' ⟨rfl, rfl⟩))
  go_ret3
  exact ⟨rfl, rfl⟩
theorem bare_scoped (s : ByteArray) (w : World) (hs : s.size ≤ 9223372036854775807) (h : Lib.hasPrefix s.data.toList [64] = true) (i : Nat) (hi : Lib.indexByte s.data.toList 47 = i) (hi2 : i < s.size)
    (j : Nat) (hj : Lib.indexByte (List.take (s.size - (i + 1)) (List.drop (i + 1) s.data.toList)) 47 = j) (hj2 : i + 1 + j < s.size) :
    Calls Try.prog 15 #[.string s] w fun e w' => e = .returned (.tuple #[.string (s.extract 0 (i + 1 + j)), .string (s.extract (min (i + 1 + j) s.size) s.size), .bool true]) ∧ w = w' := by
  have h1 : ((i : Int) == -1) = false := by rw [beq_eq_false_iff_ne]; omega
  have h2 : ((j : Int) != -1) = true := by rw [bne_iff_ne]; omega
  go_enter Try.func15, Try.ntmps15
  go_wp2_with (first | (go_at_call 17; refine (Try.strings_IndexByte _ _ _).mono ?_; rintro e w' ⟨rfl, rfl⟩) | (go_at_call 18; refine (Try.strings_HasPrefix _ _ _).mono ?_; rintro e w' ⟨rfl, rfl⟩))
  go_ret3
  exact ⟨rfl, rfl⟩
theorem bare_scoped_end (s : ByteArray) (w : World) (hs : s.size ≤ 9223372036854775807) (h : Lib.hasPrefix s.data.toList [64] = true) (i : Nat) (hi : Lib.indexByte s.data.toList 47 = i) (hi2 : i < s.size)
    (hj : Lib.indexByte (List.take (s.size - (i + 1)) (List.drop (i + 1) s.data.toList)) 47 = -1) :
    Calls Try.prog 15 #[.string s] w fun e w' => e = .returned (.tuple #[.string s, .string ByteArray.empty, .bool true]) ∧ w = w' := by
  have h1 : ((i : Int) == -1) = false := by rw [beq_eq_false_iff_ne]; omega
  have h2 : ((-1 : Int) != -1) = false := by decide
  go_enter Try.func15, Try.ntmps15
  go_wp2_with (first | (go_at_call 17; refine (Try.strings_IndexByte _ _ _).mono ?_; rintro e w' ⟨rfl, rfl⟩) | (go_at_call 18; refine (Try.strings_HasPrefix _ _ _).mono ?_; rintro e w' ⟨rfl, rfl⟩))
  go_ret3
  exact ⟨rfl, rfl⟩
theorem bare_plain (s : ByteArray) (w : World) (hs : s.size ≤ 9223372036854775807) (h : Lib.hasPrefix s.data.toList [64] = false) (i : Nat) (hi : Lib.indexByte s.data.toList 47 = i) (hi2 : i < s.size) :
    Calls Try.prog 15 #[.string s] w fun e w' => e = .returned (.tuple #[.string (s.extract 0 i), .string (s.extract (min i s.size) s.size), .bool true]) ∧ w = w' := by
  have h1 : ((i : Int) != -1) = true := by rw [bne_iff_ne]; omega
  go_enter Try.func15, Try.ntmps15
  go_wp2_with (first | (go_at_call 17; refine (Try.strings_IndexByte _ _ _).mono ?_; rintro e w' ⟨rfl, rfl⟩) | (go_at_call 18; refine (Try.strings_HasPrefix _ _ _).mono ?_; rintro e w' ⟨rfl, rfl⟩))
  go_ret3
  exact ⟨rfl, rfl⟩
theorem bare_plain_end (s : ByteArray) (w : World) (hs : s.size ≤ 9223372036854775807) (h : Lib.hasPrefix s.data.toList [64] = false) (hi : Lib.indexByte s.data.toList 47 = -1) :
    Calls Try.prog 15 #[.string s] w fun e w' => e = .returned (.tuple #[.string s, .string ByteArray.empty, .bool true]) ∧ w = w' := by
  have h1 : ((-1 : Int) != -1) = false := by decide
  go_enter Try.func15, Try.ntmps15
  go_wp2_with (first | (go_at_call 17; refine (Try.strings_IndexByte _ _ _).mono ?_; rintro e w' ⟨rfl, rfl⟩) | (go_at_call 18; refine (Try.strings_HasPrefix _ _ _).mono ?_; rintro e w' ⟨rfl, rfl⟩))
  go_ret3
  exact ⟨rfl, rfl⟩
theorem empty_end (s : ByteArray) : s.extract s.size s.size = ByteArray.empty := by apply ext_list; rw [Lib.extract_data]; simp
theorem wrap7 (s : ByteArray) (v : Value) (a b c : Value) (hv : v = .tuple #[a, b, c]) (h : ∀ w, Calls Try.prog 15 #[.string s] w fun e w' => e = .returned v ∧ w = w') (w : World) :
    Calls Try.prog 7 #[.string s] w fun e w' => e = .returned v ∧ w = w' := by
  subst hv
  have H := Lib.hid h; clear h
  go_enter Try.func7, Try.ntmps7
  go_wp2_with fail
  refine (H.out _).mono ?_
  rintro e w' ⟨rfl, rfl⟩
  go_wp2
  go_ret3
  exact ⟨rfl, rfl⟩
/-- What parseBareIdentifier gives: a refusal; or a split at k. -/
theorem bare_any (s : ByteArray) (hs : s.size ≤ 9223372036854775807) :
    (Lib.hasPrefix s.data.toList [64] = true ∧ s.data.toList.count 47 = 0 ∧ ∀ w, Calls Try.prog 7 #[.string s] w fun e w' => e = .returned (.tuple #[.string { data := #[] }, .string { data := #[] }, .bool false]) ∧ w = w') ∨
    ((Lib.hasPrefix s.data.toList [64] = true → 0 < s.data.toList.count 47) ∧ ∃ k : Nat, k ≤ s.size ∧ s.data.toList[k]? = (if k < s.size then some 47 else none) ∧ (s.data.toList.take k).count 47 = (if Lib.hasPrefix s.data.toList [64] = true then 1 else 0) ∧
      ∀ w, Calls Try.prog 7 #[.string s] w fun e w' => e = .returned (.tuple #[.string (s.extract 0 k), .string (s.extract k s.size), .bool true]) ∧ w = w') := by
  by_cases h : Lib.hasPrefix s.data.toList [64] = true
  · rcases idx 47 s.data.toList with ⟨h1, h2⟩ | ⟨i, h1, h2, h3, h4⟩
    · exact .inl ⟨h, h2, fun w => wrap7 s _ _ _ _ rfl (fun w => bare_no s w hs h h1) w⟩
    · right
      rw [len_list] at h2
      have hpos : 0 < s.data.toList.count 47 := List.count_pos_iff.2 (List.mem_of_getElem? h4)
      refine ⟨fun _ => hpos, ?_⟩
      have htk : List.take (s.size - (i + 1)) (List.drop (i + 1) s.data.toList) = List.drop (i + 1) s.data.toList := List.take_of_length_le (by rw [List.length_drop, len_list]; omega)
      have hone : (s.data.toList.take (i + 1)).count 47 = 1 := by
        rw [List.take_add_one, List.count_append, h3, h4]; rfl
      rcases idx 47 (List.drop (i + 1) s.data.toList) with ⟨j1, j2⟩ | ⟨j, j1, j2, j3, j4⟩
      · refine ⟨s.size, Nat.le_refl _, by simp, ?_, ?_⟩
        · rw [if_pos h, ← len_list s, List.take_length, ← List.take_append_drop (i + 1) s.data.toList, List.count_append, hone, j2]
        · have hc := fun w => bare_scoped_end s w hs h i h1 h2 (by rw [htk]; exact j1)
          rw [empty_end, whole]
          exact fun w => wrap7 s _ _ _ _ rfl hc w
      · rw [List.length_drop, len_list] at j2
        refine ⟨i + 1 + j, by omega, ?_, ?_, ?_⟩
        · rw [if_pos (by omega)]; rw [List.getElem?_drop] at j4; exact j4
        · rw [if_pos h, List.take_add, List.count_append, hone, j3]
        · have hc := fun w => bare_scoped s w hs h i h1 h2 j (by rw [htk]; exact j1) (by omega)
          rw [Nat.min_eq_left (by omega)] at hc
          exact fun w => wrap7 s _ _ _ _ rfl hc w
  · right
    have h' : Lib.hasPrefix s.data.toList [64] = false := by simpa using h
    refine ⟨fun hh => absurd hh h, ?_⟩
    rcases idx 47 s.data.toList with ⟨h1, h2⟩ | ⟨i, h1, h2, h3, h4⟩
    · refine ⟨s.size, Nat.le_refl _, by simp, ?_, ?_⟩
      · rw [if_neg h, ← len_list s, List.take_length, h2]
      · have hc := fun w => bare_plain_end s w hs h' h1
        rw [empty_end, whole]
        exact fun w => wrap7 s _ _ _ _ rfl hc w
    · rw [len_list] at h2
      refine ⟨i, by omega, by rw [if_pos h2]; exact h4, by rw [if_neg h, h3], ?_⟩
      have hc := fun w => bare_plain s w hs h' i h1 h2
      rw [Nat.min_eq_left (by omega)] at hc
      exact fun w => wrap7 s _ _ _ _ rfl hc w
end Go.Proofs.Ytjokjiphlacglaa.Names
