/- The walk of the law FnNoBaseURLPatternDecidedByFirstThreeBytes: for every two strings it returns true. No condition. -/
import Derived.Test.YtlhdihdlkejjdaaFmtDfH
namespace Go.Proofs.YtlhdihdlkejjdaaFmt.fnNoBaseURLPatternDecidedByFirstThreeBytes
open Go.RowKit Go.Deep Go.Proofs.YtlhdihdlkejjdaaFmt.Base Go.Proofs.YtlhdihdlkejjdaaFmt.Sls Go.Proofs.YtlhdihdlkejjdaaFmt.DfA Go.Proofs.YtlhdihdlkejjdaaFmt.DfF Go.Proofs.YtlhdihdlkejjdaaFmt.DfG Go.Proofs.YtlhdihdlkejjdaaFmt.DfH
set_option linter.unusedVariables false
/-- If it says yes, what the arguments lead to is short. -/
theorem bytes_any (s0 : ByteArray) (s1 : ByteArray) (w : World) (hs0 : s0.size ≤ maxLen) (hs1 : s1.size ≤ maxLen) :
    Calls Tryf.prog 8 #[.string s0, .string s1] w (Bd (s0.size + s1.size ≤ 1048576) w) := by
  unfold maxLen at hs0
  unfold maxLen at hs1
  go_enter Tryf.func8, Tryf.ntmps8
  go_wp2
  all_goals first | (go_ret; exact ⟨false, rfl, (fun h => by cases h), rfl⟩) | skip
  go_ret
  exact ⟨true, rfl, (fun _ => by omega), rfl⟩
theorem V_big (n m : Nat) (x y z : Int) (hn : 3 ≤ n) (hm : 3 ≤ m) : V n x y z = V m x y z := by
  have a1 : (((n : Int) == 1) = false) := by rw [beq_eq_false_iff_ne]; omega
  have a2 : (((n : Int) == 2) = false) := by rw [beq_eq_false_iff_ne]; omega
  have b1 : (((m : Int) == 1) = false) := by rw [beq_eq_false_iff_ne]; omega
  have b2 : (((m : Int) == 2) = false) := by rw [beq_eq_false_iff_ne]; omega
  unfold V
  rw [a1, a2, b1, b2]
theorem byte_eq (s t : ByteArray) (i : Nat) (hs : i < s.size) (ht : i < t.size) (h : s.data.toList[i]'(by rw [len_list]; exact hs) = t.data.toList[i]'(by rw [len_list]; exact ht)) : byteAt s i = byteAt t i := by
  unfold byteAt
  rw [dif_pos hs, dif_pos ht]
  have e1 : s[i] = s.data.toList[i]'(by rw [len_list]; exact hs) := by simp [ByteArray.getElem_eq_getElem_data]
  have e2 : t[i] = t.data.toList[i]'(by rw [len_list]; exact ht) := by simp [ByteArray.getElem_eq_getElem_data]
  rw [e1, e2, h]
theorem same (s t : ByteArray) (h : 3 ≤ s.size) : okN (s.extract 0 3 ++ t) = okN s := by
  have hz : (s.extract 0 3 ++ t).size = 3 + t.size := by rw [ByteArray.size_append, ByteArray.size_extract]; omega
  have hb : ∀ i, i < 3 → byteAt (s.extract 0 3 ++ t) i = byteAt s i := fun i hi => by
    refine byte_eq _ _ i (by omega) (by omega) ?_
    simp only [list_append]
    rw [List.getElem_append_left (by rw [len_list, ByteArray.size_extract]; omega)]
    simp
  unfold okN
  rw [hb 0 (by omega), hb 1 (by omega), hb 2 (by omega)]
  exact V_big _ _ _ _ _ (by omega) h
set_option maxRecDepth 20000 in
set_option maxHeartbeats 2000000 in
theorem walk (a0 a1 : ByteArray) (w : World) (w0 : a0.size ≤ maxLen) (w1 : a1.size ≤ maxLen) :
    Calls Tryf.prog 4 #[.string a0, .string a1] w fun e w' => e = .returned (.bool true) ∧ Below w.heap.size w w' := by
  have HB := Lib.hid (bytes_any a0 a1 w w0 w1)
  unfold maxLen at w0 w1
  by_cases hz : a0.size + a1.size ≤ 1048576
  · by_cases h3 : a0.size < 3
    · go_enter Tryf.func4, Tryf.ntmps4
      go_wp2_with (first | (go_at_call 8; refine HB.out.mono ?_; rintro e w7 ⟨b, rfl, hb, rfl⟩; clear hb) | fail)
      all_goals
        go_ret
        exact ⟨rfl, Below.refl _ _⟩
    · obtain ⟨st, hst⟩ : ∃ st, st = a0.extract 0 3 ++ a1 := ⟨_, rfl⟩
      have zst : st.size ≤ 1048576 := by rw [hst, ByteArray.size_append, ByteArray.size_extract]; omega
      have C1 := Lib.hid (fun w' => zz6 a0 w' (by omega))
      have C2 := Lib.hid (fun w' => zz6 st w' zst)
      have hs := same a0 a1 (by omega)
      rw [← hst] at hs
      rw [hs] at C2
      obtain ⟨o1, h1⟩ : ∃ o1, o1 = okN a0 := ⟨_, rfl⟩
      rw [← h1] at C1 C2
      have e1 := hst.symm
      clear h1 hst zst hs
      go_enter Tryf.func4, Tryf.ntmps4
      cases o1
      all_goals
        go_wp2_with (first | (go_at_call 8; refine HB.out.mono ?_; rintro e w7 ⟨b, rfl, hb, rfl⟩; clear hb) | (go_at_call 6; first | ((with_reducible refine (C1.out _).mono ?_); rintro e w8 ⟨⟨n8, p8, rfl⟩, hb8⟩; have HB8 := Lib.hid hb8; clear hb8) | ((with_reducible refine (C2.out _).mono ?_); rintro e w9 ⟨⟨n9, p9, rfl⟩, hb9⟩; have HB9 := Lib.hid hb9; clear hb9)) | fail)
        all_goals first | (go_ret; exact ⟨rfl, Below.refl _ _⟩) | (go_ret; exact ⟨rfl, below_join HB8.out HB8.out.size HB9.out⟩) | skip
  · have HZ := Lib.hid hz
    clear hz
    go_enter Tryf.func4, Tryf.ntmps4
    go_wp2_with fail
    refine HB.out.mono ?_
    rintro e w' ⟨b, rfl, hb, rfl⟩
    cases b
    · clear hb
      go_wp2
      go_ret
      exact ⟨rfl, Below.refl _ _⟩
    · exact absurd (hb rfl) HZ.out
end Go.Proofs.YtlhdihdlkejjdaaFmt.fnNoBaseURLPatternDecidedByFirstThreeBytes
