/- The walk of the law FnParsePackageNameRoundTrip: it returns true for every string. No condition. -/
import Derived.Test.YtjokjiphlacglaaPkj
namespace Go.Proofs.Ytjokjiphlacglaa.fnParsePackageNameRoundTrip
open Go.ChangeShapes Go.WideShapes Go.ChangeAt Go.RowKit Go.Proofs.Ytjokjiphlacglaa.Base Go.Proofs.Ytjokjiphlacglaa.Names Go.Proofs.Ytjokjiphlacglaa.Pct Go.Proofs.Ytjokjiphlacglaa.Pkn Go.Proofs.Ytjokjiphlacglaa.Pkj
set_option linter.unusedVariables false
/-! ### PLAIN -/
theorem cut_unique (s : ByteArray) (i k : Nat) (hi : Cut s i) (hk : Cut s k) : i = k := by
  have key : ∀ a b, Cut s a → Cut s b → ¬ a < b := by
    intro a b ha hb hlt
    have has : a < s.size := by have := hb.le; omega
    have hat := ha.at_ has
    have h1 : (s.data.toList.take (a + 1)).count 47 = need s + 1 := by
      rw [List.take_add_one, List.count_append, ha.cnt, hat]; rfl
    have h2 := count_mono s.data.toList 47 (a + 1) b (by omega)
    have := hb.cnt
    omega
  have h1 := key i k hi hk
  have h2 := key k i hk hi
  omega
theorem take_list (s : ByteArray) (k : Nat) : (s.extract 0 k).data.toList = s.data.toList.take k := by rw [Lib.extract_data]; simp
theorem need_name (s : ByteArray) (k : Nat) (hk : 0 < k) : need (s.extract 0 k) = need s := by
  unfold need
  rw [pre_iff, pre_iff, take_list, List.getElem?_take, if_pos hk]
theorem cut_name (s : ByteArray) (k : Nat) (h0 : 0 < k) (h : Cut s k) : Cut (s.extract 0 k) k := by
  have hz := size_to s k h.le
  refine ⟨by omega, ?_, fun hl => absurd hl (by omega)⟩
  rw [need_name s k h0, take_list, List.take_take, Nat.min_self]; exact h.cnt
theorem not_refused (s : ByteArray) (k : Nat) (h0 : 0 < k) (h : Cut s k) : ¬ Refused (s.extract 0 k) := by
  have hz := size_to s k h.le
  rintro (h1 | ⟨h1, h2⟩)
  · omega
  · have hn := need_name s k h0
    have : need (s.extract 0 k) = 1 := by unfold need; rw [if_pos h1]
    rw [take_list, h.cnt] at h2
    omega
def dotted (s : ByteArray) (k : Nat) : ByteArray := ({ data := #[46] } : ByteArray) ++ s.extract k s.size
theorem dot_list (s : ByteArray) (k : Nat) : (dotted s k).data.toList = 46 :: s.data.toList.drop k := by
  unfold dotted
  rw [list_append, Lib.extract_data, List.take_of_length_le (by rw [List.length_drop, len_list]; omega)]; rfl
theorem dot_size (s : ByteArray) (k : Nat) (h : k ≤ s.size) : (dotted s k).size = 1 + (s.size - k) := by
  rw [← len_list, dot_list, List.length_cons, List.length_drop, len_list]; omega
theorem again (s : ByteArray) (k : Nat) (hs : s.size ≤ 1048576) (h0 : 0 < k) (h : Cut s k) (hok : okB (s.extract 0 k) = true) (w : World) :
    Calls Try.prog 11 #[.string (s.extract 0 k)] w fun e w' => e = .returned (.tuple #[.string (s.extract 0 k), .string { data := #[46] }, .bool true]) ∧ Below w.heap.size w w' := by
  have hz := size_to s k h.le
  have hle := h.le
  rcases pkg_all (s.extract 0 k) (by omega) with ⟨hr, _⟩ | ⟨_, j, hj, hc⟩
  · exact absurd hr (not_refused s k h0 h)
  · obtain rfl : j = k := cut_unique _ _ _ hj (cut_name s k h0 h)
    have := hc w
    unfold tri at this
    have e1 : (s.extract 0 j).extract 0 j = s.extract 0 j := by
      apply ext_list; rw [take_list, take_list, List.take_take, Nat.min_self]
    have e2 : ({ data := #[46] } : ByteArray) ++ (s.extract 0 j).extract j (s.extract 0 j).size = { data := #[46] } := by
      apply ext_list
      rw [list_append, Lib.extract_data, hz, Nat.sub_self, List.take_zero]; rfl
    rw [e1, hok, if_pos rfl, e2] at this
    exact this
/-! ### THE WALKS -/
theorem no_sub (s nm : ByteArray) (w : World) (hs : s.size ≤ 1048576) (hc : Calls Try.prog 11 #[.string s] w fun e w' => e = .returned (.tuple #[.string nm, .string { data := #[] }, .bool false]) ∧ Below w.heap.size w w') :
    Calls Try.prog 5 #[.string s] w fun e w' => e = .returned (.bool true) ∧ Below w.heap.size w w' := by
  have Y := Lib.hid (bytes14 s w (by unfold maxLen; omega))
  have C := Lib.hid hc
  clear hc
  go_enter Try.func5, Try.ntmps5
  go_wp2_with fail
  refine Y.out.mono ?_
  rintro e w' ⟨b, rfl, hb, rfl⟩
  clear hb
  cases b
  · go_wp2
    go_ret
    exact ⟨rfl, Below.refl _ _⟩
  go_wp2_with fail
  refine C.out.mono ?_
  rintro e w1 ⟨rfl, hb1⟩
  have HB1 := Lib.hid hb1; clear hb1
  go_wp2
  go_ret
  exact ⟨rfl, HB1.out⟩
set_option maxHeartbeats 1000000 in
theorem core (s nm sb : ByteArray) (w : World) (hs : s.size ≤ 1048576) (hnz : nm.size ≤ 1048576) (hz : 1 ≤ sb.size) (hz2 : sb.size ≤ 1048577) (hc : Calls Try.prog 11 #[.string s] w fun e w' => e = .returned (.tuple #[.string nm, .string sb, .bool true]) ∧ Below w.heap.size w w')
    (b0 : ((sb[0]'(by omega)).toNat : Int) = 46) (b1 : ∀ h : 1 < sb.size, ((sb[1]'h).toNat : Int) = 47) (hcat : nm ++ sb.extract 1 sb.size = s)
    (C12 : ∀ W, Calls Try.prog 12 #[.string nm, .string { data := #[46] }] W fun e w' => e = .returned (.bool false) ∧ W = w')
    (C92 : ∀ W, Calls Try.prog 13 #[.string nm, .int .u8 92] W fun e w' => e = .returned (.int .i64 (0 : Nat)) ∧ W = w')
    (C37 : ∀ W, Calls Try.prog 13 #[.string nm, .int .u8 37] W fun e w' => e = .returned (.int .i64 (0 : Nat)) ∧ W = w')
    (C11 : 0 < nm.size → ∀ W, Calls Try.prog 11 #[.string nm] W fun e w' => e = .returned (.tuple #[.string nm, .string { data := #[46] }, .bool true]) ∧ Below W.heap.size W w') :
    Calls Try.prog 5 #[.string s] w fun e w' => e = .returned (.bool true) ∧ Below w.heap.size w w' := by
  have Y := Lib.hid (bytes14 s w (by unfold maxLen; omega))
  have C := Lib.hid hc
  have K12 := Lib.hid C12; have K92 := Lib.hid C92; have K37 := Lib.hid C37; have K11 := Lib.hid C11
  have t0 : (((sb[0]'(by omega)).toNat : Int) != 46) = false := by rw [b0]; rfl
  have zl : ((sb.size : Int) == 0) = false := by rw [beq_eq_false_iff_ne]; omega
  have q : (!(nm ++ sb.extract 1 sb.size).toList == s.toList) = false := by rw [hcat]; simp
  have q1 : (!nm.toList == nm.toList) = false := by simp
  by_cases hl : 1 < sb.size
  all_goals
    first
    | have t1 : (((sb[1]'hl).toNat : Int) != 47) = false := by rw [b1 hl]; rfl
    | have t1 : decide ((1 : Int) < (sb.size : Int)) = false := by simp; omega
    clear hc C12 C92 C37 C11 b0 b1 hcat
    by_cases hn : 0 < nm.size
    · have e1 := not_empty nm hn
      have e2 : (!nm.toList.isEmpty) = true := by rw [e1]; rfl
      go_enter Try.func5, Try.ntmps5
      go_wp2_with fail
      refine Y.out.mono ?_
      rintro e w' ⟨b, rfl, hb, rfl⟩
      clear hb
      cases b
      · go_wp2
        go_ret
        exact ⟨rfl, Below.refl _ _⟩
      go_wp2_with fail
      refine C.out.mono ?_
      rintro e w1 ⟨rfl, hb1⟩
      have HB1 := Lib.hid hb1; clear hb1
      go_wp2_with fail
      refine (K12.out _).mono ?_
      rintro e w' ⟨rfl, rfl⟩
      go_wp2_with fail
      refine (K92.out _).mono ?_
      rintro e w' ⟨rfl, rfl⟩
      go_wp2_with fail
      refine (K37.out _).mono ?_
      rintro e w' ⟨rfl, rfl⟩
      go_wp2_with fail
      refine (K11.out hn _).mono ?_
      rintro e w2 ⟨rfl, hb2⟩
      have HB2 := Lib.hid (below_join HB1.out HB1.out.size hb2); clear hb2
      go_wp2
      go_ret
      exact ⟨rfl, HB2.out⟩
    · have e1 : nm.toList = [] := by rw [Lib.toList_data]; exact List.eq_nil_of_length_eq_zero (by rw [len_list]; omega)
      go_enter Try.func5, Try.ntmps5
      go_wp2_with fail
      refine Y.out.mono ?_
      rintro e w' ⟨b, rfl, hb, rfl⟩
      clear hb
      cases b
      · go_wp2
        go_ret
        exact ⟨rfl, Below.refl _ _⟩
      go_wp2_with fail
      refine C.out.mono ?_
      rintro e w1 ⟨rfl, hb1⟩
      have HB1 := Lib.hid hb1; clear hb1
      go_wp2_with fail
      refine (K12.out _).mono ?_
      rintro e w' ⟨rfl, rfl⟩
      go_wp2_with fail
      refine (K92.out _).mono ?_
      rintro e w' ⟨rfl, rfl⟩
      go_wp2_with fail
      refine (K37.out _).mono ?_
      rintro e w' ⟨rfl, rfl⟩
      go_wp2
      go_ret
      exact ⟨rfl, HB1.out⟩
theorem cutted (s : ByteArray) (k : Nat) (w : World) (hs : s.size ≤ 1048576) (hk : Cut s k) (hc : Calls Try.prog 11 #[.string s] w fun e w' => e = .returned (tri s k) ∧ Below w.heap.size w w') :
    Calls Try.prog 5 #[.string s] w fun e w' => e = .returned (.bool true) ∧ Below w.heap.size w w' := by
  have hle := hk.le
  have hsz := size_to s k hle
  unfold tri at hc
  rcases hok : okB (s.extract 0 k)
  · rw [hok] at hc
    exact no_sub s _ w hs hc
  · rw [hok, if_pos rfl] at hc
    have hds := dot_size s k hle
    have hok2 := hok
    unfold okB badB at hok2
    simp only [Bool.and_eq_true, Bool.not_eq_true', decide_eq_false_iff_not, Classical.not_not] at hok2
    obtain ⟨hd, h92, h37⟩ := hok2
    have C12 := fun W => zhp (s.extract 0 k) false W (by omega) hd
    have C92 := fun W => count_any13 92 (s.extract 0 k) W (by omega)
    have C37 := fun W => count_any13 37 (s.extract 0 k) W (by omega)
    unfold cntB at C92 C37
    rw [h92] at C92
    rw [h37] at C37
    have g0 : (dotted s k).data.toList[0]? = some 46 := by rw [dot_list]; rfl
    rw [get_list? _ 0 (by omega)] at g0
    refine core s (s.extract 0 k) (dotted s k) w hs (by omega) (by omega) (by omega) hc ?_ ?_ ?_ C12 C92 C37 ?_
    · injection g0 with g0; rw [g0]; rfl
    · intro h
      have g1 : (dotted s k).data.toList[1]? = s.data.toList[k]? := by rw [dot_list, List.getElem?_cons_succ, List.getElem?_drop, Nat.add_zero]
      rw [get_list? _ 1 h, hk.at_ (by omega)] at g1
      injection g1 with g1; rw [g1]; rfl
    · apply ext_list
      rw [list_append, take_list, Lib.extract_data, dot_list, List.drop_succ_cons, List.drop_zero, List.take_of_length_le (l := List.drop k s.data.toList) (by rw [List.length_drop, len_list]; omega), List.take_append_drop]
    · intro h0 W
      exact again s k hs (by omega) hk hok W
theorem walk (a0 : ByteArray) (w : World) (w0 : a0.size ≤ maxLen) :
    Calls Try.prog 5 #[.string a0] w fun e w' => e = .returned (.bool true) ∧ Below w.heap.size w w' := by
  by_cases hs : a0.size ≤ 1048576
  · rcases pkg_all a0 hs with ⟨hr, hc⟩ | ⟨h0, k, hk, hc⟩
    · exact no_sub a0 _ w hs (hc w)
    · exact cutted a0 k w hs hk (hc w)
  · have H := Lib.hid (bytes14 a0 w w0)
    have HS := Lib.hid hs
    clear w0 hs
    go_enter Try.func5, Try.ntmps5
    go_wp2_with fail
    refine H.out.mono ?_
    rintro e w' ⟨b, rfl, hb, rfl⟩
    cases b
    · clear hb
      go_wp2
      go_ret
      exact ⟨rfl, Below.refl _ _⟩
    · exact absurd (hb rfl) HS.out
end Go.Proofs.Ytjokjiphlacglaa.fnParsePackageNameRoundTrip
