/- The walk of the law FnPathPatternWarnsOnceAndIsPrefixClosed: for every two strings it returns true. No condition. -/
import Derived.Test.YtlhdihdlkejjdaaFmtDfF
namespace Go.Proofs.YtlhdihdlkejjdaaFmt.fnPathPatternWarnsOnceAndIsPrefixClosed
open Go.RowKit Go.Deep Go.Proofs.YtlhdihdlkejjdaaFmt.Base Go.Proofs.YtlhdihdlkejjdaaFmt.Sls Go.Proofs.YtlhdihdlkejjdaaFmt.DfA Go.Proofs.YtlhdihdlkejjdaaFmt.DfF
set_option linter.unusedVariables false
/-- If it says yes, what the arguments lead to is short. -/
theorem bytes_any (s0 : ByteArray) (s1 : ByteArray) (w : World) (hs0 : s0.size ≤ maxLen) (hs1 : s1.size ≤ maxLen) :
    Calls Tryf.prog 9 #[.string s0, .string s1] w (Bd (s0.size + s1.size ≤ 1048576) w) := by
  unfold maxLen at hs0
  unfold maxLen at hs1
  go_enter Tryf.func9, Tryf.ntmps9
  go_wp2
  all_goals first | (go_ret; exact ⟨false, rfl, (fun h => by cases h), rfl⟩) | skip
  go_ret
  exact ⟨true, rfl, (fun _ => by omega), rfl⟩
theorem closed (s t : ByteArray) (h : okP s = false) : okP (s ++ t) = false := by
  unfold okP at *
  have h1 := of_decide_eq_false h
  refine decide_eq_false ?_
  have e : cnt s s.size ≤ cnt (s ++ t) (s ++ t).size := by
    unfold cnt
    rw [list_append, List.take_of_length_le (by rw [len_list]; exact Nat.le_refl _), List.take_of_length_le (by rw [List.length_append, len_list, len_list, ByteArray.size_append]; exact Nat.le_refl _), List.count_append]
    omega
  omega
set_option maxRecDepth 20000 in
set_option maxHeartbeats 2000000 in
theorem walk (a0 a1 : ByteArray) (w : World) (w0 : a0.size ≤ maxLen) (w1 : a1.size ≤ maxLen) :
    Calls Tryf.prog 5 #[.string a0, .string a1] w fun e w' => e = .returned (.bool true) ∧ Below w.heap.size w w' := by
  have HB := Lib.hid (bytes_any a0 a1 w w0 w1)
  unfold maxLen at w0 w1
  by_cases hz : a0.size + a1.size ≤ 1048576
  · obtain ⟨st, hst⟩ : ∃ st, st = a0 ++ a1 := ⟨_, rfl⟩
    have zst : st.size = a0.size + a1.size := by rw [hst, ByteArray.size_append]
    have C1 := Lib.hid (fun w' => zz10 a0 w' (by omega))
    have C2 := Lib.hid (fun w' => zz10 st w' (by omega))
    have HCL := Lib.hid (closed a0 a1)
    rw [← hst] at HCL
    obtain ⟨o1, h1⟩ : ∃ o1, o1 = okP a0 := ⟨_, rfl⟩
    obtain ⟨o2, h2⟩ : ∃ o2, o2 = okP st := ⟨_, rfl⟩
    rw [← h1] at C1 HCL
    rw [← h2] at C2 HCL
    have e1 := hst.symm
    clear h1 h2 hst zst
    go_enter Tryf.func5, Tryf.ntmps5
    cases o1
    all_goals cases o2
    all_goals first | (exfalso; have := HCL.out rfl; cases this; done) | skip
    all_goals
      simp only [if_true, if_false, Bool.false_eq_true] at C1 C2
      go_wp2_with (first | (go_at_call 9; refine HB.out.mono ?_; rintro e w7 ⟨b, rfl, hb, rfl⟩; clear hb) | (go_at_call 10; first | ((with_reducible refine (C1.out _).mono ?_); rintro e w8 ⟨rfl, hb8⟩; have HB8 := Lib.hid hb8; clear hb8) | ((with_reducible refine (C2.out _).mono ?_); rintro e w9 ⟨rfl, hb9⟩; have HB9 := Lib.hid hb9; clear hb9)))
      all_goals first | (go_ret; exact ⟨rfl, Below.refl _ _⟩) | (go_ret; exact ⟨rfl, below_join HB8.out HB8.out.size HB9.out⟩) | skip
  · have HZ := Lib.hid hz
    clear hz
    go_enter Tryf.func5, Tryf.ntmps5
    go_wp2_with fail
    refine HB.out.mono ?_
    rintro e w' ⟨b, rfl, hb, rfl⟩
    cases b
    · clear hb
      go_wp2
      go_ret
      exact ⟨rfl, Below.refl _ _⟩
    · exact absurd (hb rfl) HZ.out
end Go.Proofs.YtlhdihdlkejjdaaFmt.fnPathPatternWarnsOnceAndIsPrefixClosed
