/- The walk of the law FnLessMatchesPatternKeyRank: for any two strings it returns true. No condition. -/
import Derived.Test.YthenbnofpdjimaaKeyed
import Derived.Test.YthenbnofpdjimaaShelf
import Derived.Lib.IndexLaws
namespace Go.Proofs.Ythenbnofpdjimaa.fnLessMatchesPatternKeyRank
open Go.ChangeShapes Go.WideShapes Go.ChangeAt Go.RowKit Go.Deep Go.Proofs.Ythenbnofpdjimaa.Base Go.Proofs.Ythenbnofpdjimaa.Itoa Go.Proofs.Ythenbnofpdjimaa.Keyed
set_option linter.unusedVariables false

/-! ### PLAIN: 'sx': where the first star is, -1 if there is none -/
def sx (s : ByteArray) : Int := Lib.indexByte s.data.toList 42
def base (s : ByteArray) : Int := if 0 ≤ sx s then sx s else s.size
def gt (a b : ByteArray) : Bool := if base b < base a then true else if base a < base b then false else if sx a < 0 then false else if sx b < 0 then true else decide (b.size < a.size)
theorem sx_ge (s : ByteArray) : -1 ≤ sx s := Lib.indexByte_ge _ _
theorem sx_le (s : ByteArray) : sx s ≤ s.size := by
  by_cases h : sx s < 0
  · omega
  · obtain ⟨o, ho⟩ := Int.eq_ofNat_of_zero_le (show 0 ≤ sx s by omega)
    have := (Lib.indexByte_some (l := s.data.toList) (c := 42) ho).1
    have := (List.getElem?_eq_some_iff.1 this).1
    rw [len_list] at this; omega
def starN (s : ByteArray) : Int := if 0 ≤ sx s then 1 else 0
theorem gt_base (a b : ByteArray) (h : (base a != base b) = true) : decide (base b < base a) = gt a b := by
  rw [bne_iff_ne] at h
  unfold gt
  by_cases h1 : base b < base a
  · simp [h1]
  · simp [h1]; intro h2; omega
theorem gt_star (a b : ByteArray) (h : (base a != base b) = false) (h2 : (starN a != starN b) = true) : decide (starN b < starN a) = gt a b := by
  rw [bne_eq_false_iff_eq] at h
  rw [bne_iff_ne] at h2
  unfold gt
  rw [if_neg (by omega), if_neg (by omega)]
  unfold starN at h2 ⊢
  by_cases ha : 0 ≤ sx a <;> by_cases hb : 0 ≤ sx b
  · simp [ha, hb] at h2
  · rw [if_pos ha, if_neg hb, if_neg (by omega), if_pos (by omega)]; rfl
  · rw [if_neg ha, if_pos hb, if_pos (by omega)]; rfl
  · simp [ha, hb] at h2
theorem gt_len (a b : ByteArray) (h : (base a != base b) = false) (h2 : (starN a != starN b) = false) : decide (b.size < a.size) = gt a b := by
  rw [bne_eq_false_iff_eq] at h h2
  unfold gt
  rw [if_neg (by omega), if_neg (by omega)]
  unfold starN at h2
  unfold base at h
  by_cases ha : 0 ≤ sx a <;> by_cases hb : 0 ≤ sx b
  · rw [if_neg (by omega), if_neg (by omega)]
  · rw [if_pos ha, if_neg hb] at h2; omega
  · rw [if_neg ha, if_pos hb] at h2; omega
  · rw [if_neg ha, if_neg hb] at h; rw [if_pos (by omega)]; simp; omega

theorem base_or (s : ByteArray) : (0 ≤ sx s ∧ base s = sx s) ∨ (sx s < 0 ∧ base s = s.size) := by
  unfold base
  by_cases h : 0 ≤ sx s
  · left; exact ⟨h, if_pos h⟩
  · right; exact ⟨by omega, if_neg h⟩
theorem gt_iff (a b : ByteArray) : gt a b = true ↔ (base b < base a) ∨ (base a = base b ∧ 0 ≤ sx a ∧ (sx b < 0 ∨ b.size < a.size)) := by
  unfold gt
  by_cases h1 : base b < base a
  · simp [h1]
  · rw [if_neg h1]
    by_cases h2 : base a < base b
    · simp [h2]; omega
    · rw [if_neg h2]
      by_cases h3 : sx a < 0
      · simp [h3]; omega
      · rw [if_neg h3]
        by_cases h4 : sx b < 0
        · simp [h4]; omega
        · rw [if_neg h4, decide_eq_true_eq]; omega

/-! ### THE PROGRAM's FUNCTION -/
theorem index_any (s : ByteArray) (w : World) : Calls Try.prog 34 #[.string s, .int .u8 42] w fun e w' => e = .returned (.int .i64 (sx s)) ∧ w' = w := Try.strings_IndexByte s 42 w
theorem less_any (B len i j : Nat) (A S : ByteArray) (w : World) (hi : i < len) (hj : j < len) (hl : len ≤ 65536) (ca : w.cell? ⟨B, i * 10, none⟩ = some (.string A)) (cb : w.cell? ⟨B, j * 10, none⟩ = some (.string S)) (hA : A.size ≤ 1048576) (hS : S.size ≤ 1048576) :
    Calls Try.prog 24 #[.slice (some ⟨B, 0, none⟩) len len, .int .i64 i, .int .i64 j] w fun e w' => e = .returned (.bool (gt A S)) ∧ w = w' := by
  have a1 := sx_ge A; have a2 := sx_le A; have s1 := sx_ge S; have s2 := sx_le S
  go_enter Try.func24, Try.ntmps24
  go_wp2_with ((go_at_call 34; refine (index_any _ _).mono ?_; rintro e w' ⟨rfl, rfl⟩))
  all_goals
    go_ret
    refine ⟨ret_bool ?_, rfl⟩
    clear ca cb
    have bA := base_or A
    have bS := base_or S
    first
      | exact (((gt_iff A S).2 (by omega))).symm
      | exact (Bool.eq_false_iff.2 (fun h => by rw [gt_iff] at h; omega)).symm
theorem less_call (B len i j : Nat) (A S : ByteArray) (w : World) (hi : i < len) (hj : j < len) (hl : len ≤ 65536) (ca : w.cell? ⟨B, i * 10, none⟩ = some (.string A)) (cb : w.cell? ⟨B, j * 10, none⟩ = some (.string S)) (hA : A.size ≤ 1048576) (hS : S.size ≤ 1048576) :
    Calls Try.prog 8 #[.slice (some ⟨B, 0, none⟩) len len, .int .i64 i, .int .i64 j] w fun e w' => e = .returned (.bool (gt A S)) ∧ w = w' := by
  have H := Lib.hid (less_any B len i j A S w hi hj hl ca cb hA hS)
  go_enter Try.func8, Try.ntmps8
  go_wp2_with fail
  refine H.out.mono ?_
  rintro e w' ⟨rfl, rfl⟩
  go_wp2
  go_ret
  exact ⟨rfl, rfl⟩

/-! ### THE MODEL -/
theorem ret_ints {a b a' b' : Int} (h : a = a') (h2 : b = b') : Ending.returned (.tuple #[.int .i64 a, .int .i64 b]) = .returned (.tuple #[.int .i64 a', .int .i64 b']) := by rw [h, h2]
theorem base_any (s : ByteArray) (w : World) (hs : s.size ≤ 1048576) :
    Calls Try.prog 25 #[.string s] w fun e w' => e = .returned (.tuple #[.int .i64 (base s), .int .i64 (starN s)]) ∧ w = w' := by
  obtain ⟨x, hx⟩ : ∃ x, x = base s := ⟨_, rfl⟩
  obtain ⟨y, hy⟩ : ∃ y, y = starN s := ⟨_, rfl⟩
  rw [← hx, ← hy]
  have HX := Lib.hid hx; have HY := Lib.hid hy; clear hx hy
  have a1 := sx_ge s; have a2 := sx_le s
  go_enter Try.func25, Try.ntmps25
  go_wp2
  go_loop [4] (fun i => ∃ k : Nat, k ≤ s.size ∧ Hid (∀ j, j < k → s.data.toList[j]? ≠ some 42) ∧ i = .int .i64 k) (fun i => s.size - (intOf i).toNat)
  case atStart => exact ⟨0, by omega, Lib.hid (fun j hj => by omega), rfl⟩
  case round =>
    obtain ⟨k, hk, HK, rfl⟩ := hrel
    by_cases hlt : k < s.size
    · have e := u8_eq s[k] 42 (by omega)
      by_cases hc : (s[k].toNat : Int) = 42
      · have hc1 : ((s[k].toNat : Int) == 42) = true := by rw [beq_iff_eq]; exact hc
        have hs42 : s.data.toList[k]? = some 42 := by rw [get_list? s k hlt, e.1 hc]; rfl
        have H1 := Lib.hid (show sx s = k by
          by_cases h : sx s < 0
          · exact absurd hs42 (Lib.indexByte_none (l := s.data.toList) (c := 42) (by show sx s = -1; omega) k)
          · obtain ⟨o, ho⟩ := Int.eq_ofNat_of_zero_le (show 0 ≤ sx s by omega)
            have h1 := Lib.indexByte_some (l := s.data.toList) (c := 42) ho
            rcases Nat.lt_trichotomy o k with h2 | h2 | h2
            · exact absurd h1.1 (HK.out o h2)
            · rw [ho, h2]
            · exact absurd hs42 (h1.2 k h2))
        clear hc e hs42
        go_wp2
        go_ret2
        have h5 := H1.out
        exact ⟨ret_ints (by rw [HX.out]; unfold base; rw [h5, if_pos (by omega)]) (by rw [HY.out]; unfold starN; rw [h5, if_pos (by omega)]), rfl⟩
      · have hc1 : ((s[k].toNat : Int) == 42) = false := by rw [beq_eq_false_iff_ne]; exact hc
        have HK2 := Lib.hid (show ∀ j, j < k + 1 → s.data.toList[j]? ≠ some 42 by
          intro j hj
          rcases Nat.lt_or_ge j k with h | h
          · exact HK.out j h
          · have : j = k := by omega
            subst this
            rw [get_list? s j hlt]; intro h3; exact hc (e.2 (by simpa using h3)))
        clear hc e
        go_wp2
        go_round
        case rel => exact ⟨k + 1, by omega, HK2, by go_num⟩
        case measure => simp [intOf]; omega
    · have H1 := Lib.hid (show sx s < 0 by
        by_cases h : sx s < 0
        · exact h
        · obtain ⟨o, ho⟩ := Int.eq_ofNat_of_zero_le (show 0 ≤ sx s by omega)
          have h1 := Lib.indexByte_some (l := s.data.toList) (c := 42) ho
          exact absurd h1.1 (HK.out o (by have := (List.getElem?_eq_some_iff.1 h1.1).1; rw [len_list] at this; omega)))
      go_wp2
      go_ret2
      have h5 := H1.out
      exact ⟨ret_ints (by rw [HX.out]; unfold base; rw [if_neg (by omega)]) (by rw [HY.out]; unfold starN; rw [if_neg (by omega)]), rfl⟩
theorem rank_any (a b : ByteArray) (w : World) (ha : a.size ≤ 1048576) (hb : b.size ≤ 1048576) :
    Calls Try.prog 9 #[.string a, .string b] w fun e w' => e = .returned (.bool (gt a b)) ∧ w = w' := by
  obtain ⟨v, hv⟩ : ∃ v, v = gt a b := ⟨_, rfl⟩
  rw [← hv]
  have HV := Lib.hid hv; clear hv
  have G1 := Lib.hid (gt_base a b); have G2 := Lib.hid (gt_star a b); have G3 := Lib.hid (gt_len a b)
  go_enter Try.func9, Try.ntmps9
  go_wp2_with ((go_at_call 25; refine (base_any _ _ (by assumption)).mono ?_; rintro e w' ⟨rfl, rfl⟩))
  · go_ret
    exact ⟨ret_bool (by rw [HV.out]; exact G1.out (by assumption)), rfl⟩
  · go_ret
    exact ⟨ret_bool (by rw [HV.out]; exact G2.out (by assumption) (by assumption)), rfl⟩
  · go_ret
    exact ⟨ret_bool (by rw [HV.out]; exact G3.out (by assumption) (by assumption)), rfl⟩

/-! ### THE LAW -/
theorem walk (a0 : ByteArray) (a1 : ByteArray) (w : World) (w0 : a0.size ≤ maxLen) (w1 : a1.size ≤ maxLen) :
    Calls Try.prog 3 #[.string a0, .string a1] w fun e w' => e = .returned (.bool true) ∧ Below w.heap.size w w' := by
  unfold maxLen at w0 w1
  by_cases hz : a0.size ≤ 524288 ∧ a1.size ≤ 524288
  · obtain ⟨z0, z1⟩ := hz
    have Z0 := Lib.hid (show a0.size ≤ 1048576 by omega)
    have Z1 := Lib.hid (show a1.size ≤ 1048576 by omega)
    go_enter Try.func3, Try.ntmps3
    go_wp2_with (go_at_call 6; go_in)
    refine (keyed (some ⟨w.heap.size, 0, none⟩) 2 2 _ (by omega) (fun i => if i = 0 then a0 else a1) ?ha).mono ?_
    case ha =>
      intro _
      refine ⟨w.heap.size, 0, rfl, by simp, ?_⟩
      intro i hi
      match i, hi with
      | 0, _ => simp
      | 1, _ => simp
    rintro e w2 ⟨rfl, HR, hb2⟩
    simp only [World.size_alloc] at HR hb2
    have c0 : w2.cell? ⟨w.heap.size + 1, 0 * 10, none⟩ = some (.string a0) := HR.cell (i := 0) (by omega)
    have c1 : w2.cell? ⟨w.heap.size + 1, 1 * 10, none⟩ = some (.string a1) := HR.cell (i := 10) (by omega)
    have hB : Below w.heap.size w w2 := ((Below.refl _ w).alloc (Nat.le_refl _) _).trans (hb2.mono (by omega))
    have L1 : Hid (Calls Try.prog 8 #[.slice (some ⟨w.heap.size + 1, 0, none⟩) 2 2, .int .i64 0, .int .i64 1] w2 fun e w' => e = .returned (.bool (gt a0 a1)) ∧ w2 = w') := Lib.hid (less_call (w.heap.size + 1) 2 0 1 a0 a1 w2 (by omega) (by omega) (by omega) c0 c1 Z0.out Z1.out)
    have L2 : Hid (Calls Try.prog 8 #[.slice (some ⟨w.heap.size + 1, 0, none⟩) 2 2, .int .i64 1, .int .i64 0] w2 fun e w' => e = .returned (.bool (gt a1 a0)) ∧ w2 = w') := Lib.hid (less_call (w.heap.size + 1) 2 1 0 a1 a0 w2 (by omega) (by omega) (by omega) c1 c0 Z1.out Z0.out)
    have HB := Lib.hid hB
    clear HR hb2 c0 c1 hB
    have R1 := Lib.hid (rank_any a0 a1 w2 Z0.out Z1.out)
    have R2 := Lib.hid (rank_any a1 a0 w2 Z1.out Z0.out)
    generalize gt a0 a1 = g1 at L1 R1
    generalize gt a1 a0 = g2 at L2 R2
    have q1 : (g1 == g1) = true := by simp
    have q2 : (g2 == g2) = true := by simp
    go_wp2_with fail
    refine L1.out.mono ?_
    rintro e w' ⟨rfl, rfl⟩
    go_wp2_with fail
    refine R1.out.mono ?_
    rintro e w' ⟨rfl, rfl⟩
    go_wp2_with fail
    refine L2.out.mono ?_
    rintro e w' ⟨rfl, rfl⟩
    go_wp2_with fail
    refine R2.out.mono ?_
    rintro e w' ⟨rfl, rfl⟩
    go_wp2
    go_ret
    exact ⟨by simp, HB.out⟩
  · by_cases h0 : a0.size ≤ 524288
    · have h1 : 524288 < a1.size := by omega
      clear hz
      go_enter Try.func3, Try.ntmps3
      go_wp2_with (go_at_call 6; go_in)
      all_goals (go_ret; exact ⟨rfl, Below.refl _ _⟩)
    · clear hz
      go_enter Try.func3, Try.ntmps3
      go_wp2_with (go_at_call 6; go_in)
      all_goals (go_ret; exact ⟨rfl, Below.refl _ _⟩)
end Go.Proofs.Ythenbnofpdjimaa.fnLessMatchesPatternKeyRank
