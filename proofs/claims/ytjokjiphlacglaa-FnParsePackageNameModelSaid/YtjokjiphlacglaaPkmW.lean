/- The law FnParsePackageNameModel at strings that are refused with nothing. Condition: at most 2^20 bytes. -/
import Derived.Test.YtjokjiphlacglaaPkj
import Derived.Deep.DeepCutAuto
namespace Go.Proofs.Ytjokjiphlacglaa.fnParsePackageNameModel
open Go.ChangeShapes Go.WideShapes Go.ChangeAt Go.RowKit Go.Proofs.Ytjokjiphlacglaa.Base Go.Proofs.Ytjokjiphlacglaa.Names Go.Proofs.Ytjokjiphlacglaa.Pct Go.Proofs.Ytjokjiphlacglaa.Pkn Go.Proofs.Ytjokjiphlacglaa.Pkj
set_option linter.unusedVariables false
theorem first (s : ByteArray) (h : 0 < s.size) : (((s[0]'h).toNat : Int) == 64) = Lib.hasPrefix s.data.toList [64] := by
  rw [pre_iff, get_list? s 0 h, Bool.eq_iff_iff, beq_iff_eq, decide_eq_true_eq]
  have := u8_eq (s[0]'h) 64 (by omega)
  constructor
  · intro e; rw [this.1 e]; rfl
  · intro e; injection e with e; rw [e]; rfl
theorem refused (s : ByteArray) (w : World) (hs : s.size ≤ 1048576) (hr : Refused s) (hc : ∀ w, Calls Try.prog 11 #[.string s] w fun e w' => e = .returned (.tuple #[.string { data := #[] }, .string { data := #[] }, .bool false]) ∧ Below w.heap.size w w') :
    Calls Try.prog 4 #[.string s] w fun e w' => e = .returned (.bool true) ∧ Below w.heap.size w w' := by
  have Y := Lib.hid (bytes10 s w (by unfold maxLen; omega))
  have C := Lib.hid (hc w)
  clear hc
  rcases Nat.eq_zero_or_pos s.size with h0 | h0
  · have he : s.toList = [] := by rw [Lib.toList_data]; exact List.eq_nil_of_length_eq_zero (by rw [len_list]; exact h0)
    clear hr
    go_enter Try.func4, Try.ntmps4
    go_wp2_with fail
    refine Y.out.mono ?_
    rintro e w' ⟨b, rfl, hb, rfl⟩
    clear hb
    cases b
    · go_wp2
      go_ret
      exact ⟨rfl, Below.refl _ _⟩
    go_wp2_with fail
    refine C.out.mono ?_
    rintro e w1 ⟨rfl, hb1⟩
    have HB1 := Lib.hid hb1; clear hb1
    go_wp2
    go_ret
    exact ⟨rfl, HB1.out⟩
  · have hr2 : Lib.hasPrefix s.data.toList [64] = true ∧ s.data.toList.count 47 = 0 := by
      rcases hr with h | h
      · omega
      · exact h
    obtain ⟨hp, hcn⟩ := hr2
    have HC := Lib.hid hcn
    have hf := first s h0
    rw [hp] at hf
    have he := not_empty s h0
    have he2 : (!s.toList.isEmpty) = true := by rw [he]; rfl
    have o1 : ((1 : Int) == 1) = true := rfl
    have o0 : ((0 : Int) == 0) = true := rfl
    clear hr hp hcn
    go_enter Try.func4, Try.ntmps4
    go_wp2_with fail
    refine Y.out.mono ?_
    rintro e w' ⟨b, rfl, hb, rfl⟩
    clear hb
    cases b
    · go_wp2
      go_ret
      exact ⟨rfl, Below.refl _ _⟩
    go_wp2_with fail
    refine C.out.mono ?_
    rintro e w1 ⟨rfl, hb1⟩
    have HB1 := Lib.hid hb1; clear hb1
    go_wp2
    go_loop [10, 11, 12] (fun a b i => ∃ k : Nat, k ≤ s.size ∧ a = .int .i64 0 ∧ b = .int .i64 s.size ∧ i = .int .i64 k) (fun _ _ i => s.size - (intOf i).toNat)
    case atStart => exact ⟨0, by omega, rfl, rfl, rfl⟩
    case round =>
      obtain ⟨k, hk, rfl, rfl, rfl⟩ := hrel
      by_cases hlt : k < s.size
      · have hne : ((s[k].toNat : Int) == 47) = false := by
          rw [beq_eq_false_iff_ne]
          intro h
          have := (u8_eq s[k] 47 (by omega)).1 h
          exact absurd (count_pos s 47 k hlt this) (by have := HC.out; omega)
        go_wp2
        go_round
        case rel => exact ⟨k + 1, by omega, rfl, rfl, by go_num⟩
        case measure => simp [intOf]; omega
      · go_wp2
        go_ret
        exact ⟨rfl, HB1.out⟩
/-- The tail's tests, decided. -/
inductive Tail : Bool → Nat → Nat → Bool → Prop
  | dot (m n : Nat) : Tail true m n false
  | back (m n : Nat) (h : 0 < m) : Tail false m n false
  | perc (n : Nat) (h : 0 < n) : Tail false 0 n false
  | none : Tail false 0 0 true
theorem tail_of (D : Bool) (m n : Nat) : Tail D m n (!D && !(decide (0 < m) || decide (0 < n))) := by
  cases D
  · rcases Nat.eq_zero_or_pos m with rfl | hm
    · rcases Nat.eq_zero_or_pos n with rfl | hn
      · exact .none
      · simp [hn]; exact .perc n hn
    · simp [hm]; exact .back m n hm
  · exact .dot m n
end Go.Proofs.Ytjokjiphlacglaa.fnParsePackageNameModel
