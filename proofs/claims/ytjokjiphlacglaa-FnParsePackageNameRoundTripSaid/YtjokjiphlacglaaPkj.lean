/- esmParsePackageName joined: where the name ends; and the models of the two laws by their contracts. Condition: at most 2^20 bytes. -/
import Derived.Test.YtjokjiphlacglaaPkn
namespace Go.Proofs.Ytjokjiphlacglaa.Pkj
open Go.ChangeShapes Go.WideShapes Go.ChangeAt Go.RowKit Go.Proofs.Ytjokjiphlacglaa.Base Go.Proofs.Ytjokjiphlacglaa.Names Go.Proofs.Ytjokjiphlacglaa.Pct Go.Proofs.Ytjokjiphlacglaa.Pkn
set_option linter.unusedVariables false
/-- A yes that says P. -/
def Bd (P : Prop) (w : World) (e : Ending) (w' : World) : Prop := ∃ b : Bool, e = .returned (.bool b) ∧ (b = true → P) ∧ w = w'
/-- If it says yes, what the arguments lead to is short. -/
theorem bytes10 (s0 : ByteArray) (w : World) (hs0 : s0.size ≤ maxLen) :
    Calls Try.prog 10 #[.string s0] w (Bd (s0.size ≤ 1048576) w) := by
  unfold maxLen at hs0
  go_enter Try.func10, Try.ntmps10
  go_wp2
  all_goals first | (go_ret; exact ⟨false, rfl, (fun h => by cases h), rfl⟩) | skip
  go_ret
  exact ⟨true, rfl, (fun _ => by omega), rfl⟩
/-- If it says yes, what the arguments lead to is short. -/
theorem bytes14 (s0 : ByteArray) (w : World) (hs0 : s0.size ≤ maxLen) :
    Calls Try.prog 14 #[.string s0] w (Bd (s0.size ≤ 1048576) w) := by
  unfold maxLen at hs0
  go_enter Try.func14, Try.ntmps14
  go_wp2
  all_goals first | (go_ret; exact ⟨false, rfl, (fun h => by cases h), rfl⟩) | skip
  go_ret
  exact ⟨true, rfl, (fun _ => by omega), rfl⟩

def need (s : ByteArray) : Nat := if Lib.hasPrefix s.data.toList [64] = true then 1 else 0
/-- The name ends at k. -/
structure Cut (s : ByteArray) (k : Nat) : Prop where
  le : k ≤ s.size
  cnt : (s.data.toList.take k).count 47 = need s
  at_ : k < s.size → s.data.toList[k]? = some 47
theorem count_mono (l : List UInt8) (c : UInt8) (i k : Nat) (h : i ≤ k) : (l.take i).count c ≤ (l.take k).count c := by
  rw [show k = i + (k - i) by omega, List.take_add, List.count_append]; omega
def Refused (s : ByteArray) : Prop := s.size = 0 ∨ (Lib.hasPrefix s.data.toList [64] = true ∧ s.data.toList.count 47 = 0)
theorem wrap11 (s : ByteArray) (a b c : Value) (w : World) (h : Calls Try.prog 16 #[.string s] w fun e w' => e = .returned (.tuple #[a, b, c]) ∧ Below w.heap.size w w') :
    Calls Try.prog 11 #[.string s] w fun e w' => e = .returned (.tuple #[a, b, c]) ∧ Below w.heap.size w w' := by
  have H := Lib.hid h; clear h
  go_enter Try.func11, Try.ntmps11
  go_wp2_with fail
  refine H.out.mono ?_
  rintro e w' ⟨rfl, hb⟩
  have HB := Lib.hid hb; clear hb
  go_wp2
  go_ret3
  exact ⟨rfl, HB.out⟩
theorem pkg_all (s : ByteArray) (hs : s.size ≤ 1048576) :
    (Refused s ∧ ∀ w, Calls Try.prog 11 #[.string s] w fun e w' => e = .returned (.tuple #[.string { data := #[] }, .string { data := #[] }, .bool false]) ∧ Below w.heap.size w w') ∨
    (0 < s.size ∧ ∃ k, Cut s k ∧ ∀ w, Calls Try.prog 11 #[.string s] w fun e w' => e = .returned (tri s k) ∧ Below w.heap.size w w') := by
  rcases Nat.eq_zero_or_pos s.size with h0 | h0
  · exact .inl ⟨.inl h0, fun w => wrap11 s _ _ _ w (pkg_empty s w h0)⟩
  · have hx : ∀ i, (s.extract (i + 1) s.size).data.toList = s.data.toList.drop (i + 1) := fun i => by
      rw [Lib.extract_data, List.take_of_length_le (by rw [List.length_drop, len_list]; omega)]
    by_cases h : Lib.hasPrefix s.data.toList [64] = true
    · have hn : need s = 1 := by unfold need; rw [if_pos h]
      rcases idx 47 s.data.toList with ⟨h1, h2⟩ | ⟨i, h1, h2, h3, h4⟩
      · exact .inl ⟨.inr ⟨h, h2⟩, fun w => wrap11 s _ _ _ w (pkg_no s w h0 hs h h1)⟩
      · rw [len_list] at h2
        have hone : (s.data.toList.take (i + 1)).count 47 = 1 := by
          rw [List.take_add_one, List.count_append, h3, h4]; rfl
        refine .inr ⟨h0, ?_⟩
        rcases idx 47 (List.drop (i + 1) s.data.toList) with ⟨j1, j2⟩ | ⟨j, j1, j2, j3, j4⟩
        · refine ⟨s.size, ⟨Nat.le_refl _, ?_, fun hl => absurd hl (by omega)⟩, fun w => wrap11 s _ _ _ w (pkg_scoped_end s w h0 hs h i s.size h1 (by rw [hx]; exact j1) h2 rfl)⟩
          rw [hn, ← len_list s, List.take_length, ← List.take_append_drop (i + 1) s.data.toList, List.count_append, hone, j2]
        · rw [List.length_drop, len_list] at j2
          refine ⟨i + 1 + j, ⟨by omega, ?_, fun _ => ?_⟩, fun w => wrap11 s _ _ _ w (pkg_scoped s w h0 hs h i j _ h1 (by rw [hx]; exact j1) h2 (by omega) rfl)⟩
          · rw [hn, List.take_add, List.count_append, hone, j3]
          · rw [List.getElem?_drop] at j4; exact j4
    · have h' : Lib.hasPrefix s.data.toList [64] = false := by simpa using h
      have hn : need s = 0 := by unfold need; rw [if_neg h]
      refine .inr ⟨h0, ?_⟩
      rcases idx 47 s.data.toList with ⟨h1, h2⟩ | ⟨i, h1, h2, h3, h4⟩
      · refine ⟨s.size, ⟨Nat.le_refl _, ?_, fun hl => absurd hl (by omega)⟩, fun w => wrap11 s _ _ _ w (pkg_plain_end s w h0 hs h' s.size h1 rfl)⟩
        rw [hn, ← len_list s, List.take_length, h2]
      · rw [len_list] at h2
        exact ⟨i, ⟨by omega, by rw [hn, h3], fun _ => h4⟩, fun w => wrap11 s _ _ _ w (pkg_plain s w h0 hs h' i h1 h2)⟩
theorem pre_iff (t : ByteArray) (c : UInt8) : Lib.hasPrefix t.data.toList [c] = decide (t.data.toList[0]? = some c) := by
  cases t.data.toList with
  | nil => simp [Lib.hasPrefix]
  | cons b l =>
    have : Lib.hasPrefix (b :: l) [c] = (c == b) := by simp [Lib.hasPrefix, List.isPrefixOf]
    rw [this, Bool.eq_iff_iff, beq_iff_eq, decide_eq_true_eq]
    constructor
    · intro h; rw [h]; rfl
    · intro h; simp at h; exact h.symm
theorem zhp (t : ByteArray) (D : Bool) (w : World) (hs : t.size ≤ 1048576) (h : Lib.hasPrefix t.data.toList [46] = D) : Calls Try.prog 12 #[.string t, .string { data := #[46] }] w fun e w' => e = .returned (.bool D) ∧ w = w' := by
  rw [pre_iff] at h
  by_cases h1 : 1 ≤ t.size
  · have e1 : (t.extract 0 1).data.toList = [t[0]] := by
      rw [Lib.extract_data]
      have h2 : 0 < t.data.toList.length := by rw [len_list]; omega
      rw [List.drop_zero, show 1 - 0 = 0 + 1 from rfl, List.take_succ_eq_append_getElem h2, List.take_zero]; rfl
    have q : ((t.extract 0 1).toList == [46]) = D := by
      rw [Lib.toList_data, e1, ← h, get_list? t 0 h1]
      rw [Bool.eq_iff_iff]; simp
    clear h e1
    go_enter Try.func12, Try.ntmps12
    go_wp2
    go_ret
    exact ⟨rfl, rfl⟩
  · have hD : D = false := by
      rw [← h, decide_eq_false_iff_not, List.getElem?_eq_none (by rw [len_list]; omega)]; simp
    subst hD
    clear h
    go_enter Try.func12, Try.ntmps12
    go_wp2
    go_ret
    exact ⟨rfl, rfl⟩
end Go.Proofs.Ytjokjiphlacglaa.Pkj
