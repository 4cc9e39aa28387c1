/- The walk of the law FnIterPointersWriteThroughToPair: for all strings and each flag it returns true. No condition. -/
import Derived.Test.YthinpiiolegofaaPair
namespace Go.Proofs.Ythinpiiolegofaa.fnIterPointersWriteThroughToPair
open Go.ChangeShapes Go.WideShapes Go.ChangeAt Go.RowKit Go.Proofs.Ythinpiiolegofaa.Base Go.Proofs.Ythinpiiolegofaa.Pair
set_option linter.unusedVariables false

theorem no (a0 : ByteArray) (a1 : ByteArray) (a2 : ByteArray) (a3 : ByteArray) (a4 : ByteArray) (a5 : Bool) (w : World) (w0 : a0.size ≤ 9223372036854775807) (w1 : a1.size ≤ 9223372036854775807) (w2 : a2.size ≤ 9223372036854775807) (w3 : a3.size ≤ 9223372036854775807) (w4 : a4.size ≤ 9223372036854775807)
   (h : 1048576 < a0.size + a1.size + a2.size + a3.size + a4.size) :
    Calls Try.prog 4 #[.string a0, .string a1, .string a2, .string a3, .string a4, .bool a5] w fun e w' => e = .returned (.bool true) ∧ Below w.heap.size w w' := by
  go_enter Try.func4, Try.ntmps4
  go_wp2_with (go_at_call 9; go_in)
  all_goals (go_ret; exact ⟨rfl, Below.refl _ _⟩)
set_option maxRecDepth 100000 in
theorem bytes_yes (a0 : ByteArray) (a1 : ByteArray) (a2 : ByteArray) (a3 : ByteArray) (a4 : ByteArray) (a5 : Bool) (w : World) (h : a0.size + a1.size + a2.size + a3.size + a4.size ≤ 1048576) :
    Calls Try.prog 9 #[.string a0, .string a1, .string a2, .string a3, .string a4, .bool a5] w fun e w' => e = .returned (.bool true) ∧ w = w' := by
  go_enter Try.func9, Try.ntmps9
  go_wp2
  go_ret
  exact ⟨rfl, rfl⟩
set_option maxRecDepth 100000 in
set_option maxHeartbeats 1000000 in
theorem yes (a0 : ByteArray) (a1 : ByteArray) (a2 : ByteArray) (a3 : ByteArray) (a4 : ByteArray) (a5 : Bool) (w : World) 
   (h : a0.size + a1.size + a2.size + a3.size + a4.size ≤ 1048576) :
    Calls Try.prog 4 #[.string a0, .string a1, .string a2, .string a3, .string a4, .bool a5] w fun e w' => e = .returned (.bool true) ∧ Below w.heap.size w w' := by
  by_cases he : a2.toList = []
  · have he1 : a2.toList.isEmpty = true := by rw [he]; rfl
    have he2 : ((a2.size : Int) == 0) = true := by
      have := congrArg List.length he
      rw [Lib.toList_data, len_list, List.length_nil] at this
      rw [beq_iff_eq]; omega
    go_enter Try.func4, Try.ntmps4
    go_wp2_with (first | (go_at_call 9; refine (bytes_yes _ _ _ _ _ _ _ h).mono ?_; rintro e w' ⟨rfl, rfl⟩) | (go_at_call 6; go_in) | (go_at_call 7; go_in) | (go_at_call 8; refine (iter_one _ a2 _ (by simp) (by simp) he he1).mono ?_; rintro e w' ⟨rfl, rfl⟩))
    refine wp_loop_rounds 2 ?_
    rw [rounds_succ]
    go_wp2
    rw [rounds_succ]
    go_wp2
    go_ret
    exact ⟨by simp, by go_grown⟩
  · have he1 : a2.toList.isEmpty = false := by simpa using he
    have he2 : ((a2.size : Int) == 0) = false := by
      rw [beq_eq_false_iff_ne]
      intro hc
      apply he
      rw [Lib.toList_data]
      exact List.eq_nil_of_length_eq_zero (by rw [len_list]; omega)
    go_enter Try.func4, Try.ntmps4
    go_wp2_with (first | (go_at_call 9; refine (bytes_yes _ _ _ _ _ _ _ h).mono ?_; rintro e w' ⟨rfl, rfl⟩) | (go_at_call 6; go_in) | (go_at_call 7; go_in) | (go_at_call 8; refine (iter_two _ a2 _ (by simp) (by simp) he he1).mono ?_; rintro e w' ⟨rfl, rfl⟩))
    refine wp_loop_rounds 3 ?_
    rw [rounds_succ]
    go_wp2
    rw [rounds_succ]
    go_wp2
    rw [rounds_succ]
    go_wp2
    go_ret
    exact ⟨by simp, by go_grown⟩
theorem walk (a0 : ByteArray) (a1 : ByteArray) (a2 : ByteArray) (a3 : ByteArray) (a4 : ByteArray) (a5 : Bool) (w : World) (w0 : a0.size ≤ maxLen) (w1 : a1.size ≤ maxLen) (w2 : a2.size ≤ maxLen) (w3 : a3.size ≤ maxLen) (w4 : a4.size ≤ maxLen) :
    Calls Try.prog 4 #[.string a0, .string a1, .string a2, .string a3, .string a4, .bool a5] w fun e w' => e = .returned (.bool true) ∧ Below w.heap.size w w' := by
  unfold maxLen at w0 w1 w2 w3 w4
  by_cases h : a0.size + a1.size + a2.size + a3.size + a4.size ≤ 1048576
  · exact yes a0 a1 a2 a3 a4 a5 w h
  · exact no a0 a1 a2 a3 a4 a5 w (by omega) (by omega) (by omega) (by omega) (by omega) (by omega)
end Go.Proofs.Ythinpiiolegofaa.fnIterPointersWriteThroughToPair
