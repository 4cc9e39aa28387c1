/- The walk of the law FnStripDirPrefixInvertsJoin: for all strings prefix, rest, allowed and every byte c it returns true. No condition. -/
import Derived.Test.YteibgnldkimkoaaRows
import Derived.Test.YteibgnldkimkoaaBase
import Derived.Test.YteibgnldkimkoaaShelf
import Derived.WalkKit
import Derived.ProofKit
import Derived.OpenShut
import Derived.ShutString
import Derived.WalkLawsBesides
import Derived.WalkSpells
import Derived.Handy
import Derived.Outline
import Derived.Lib.IndexLaws
import Derived.Laws.IdiomStrings
namespace Go.Proofs.Yteibgnldkimkoaa.fnStripDirPrefixInvertsJoin
open Go.ChangeShapes Go.WideShapes Go.ChangeAt Go.RowKit Go.Proofs.Yteibgnldkimkoaa.Base
set_option linter.unusedVariables false

/-! ### PLAIN -/
def inB (c : UInt8) (s : ByteArray) : Bool := decide (c ∈ s.data.toList)
theorem idx_in (c : UInt8) : ∀ l : List UInt8, c ∈ l → 0 ≤ Lib.indexByte l c
  | [], h => by simp at h
  | b :: l, h => by
    by_cases hb : b = c
    · subst hb; simp [Lib.indexByte]
    · have hb' : (b == c) = false := by simpa using hb
      have ih := idx_in c l (by simp at h; rcases h with h | h; exact absurd h.symm hb; exact h)
      simp only [Lib.indexByte, hb']
      rw [if_neg (by decide), if_neg (by simp; omega)]; omega
theorem idx_out (c : UInt8) : ∀ l : List UInt8, c ∉ l → Lib.indexByte l c = -1
  | [], h => rfl
  | b :: l, h => by
    have hb : (b == c) = false := by simp at h; simpa using Ne.symm h.1
    have ih := idx_out c l (by simp at h; exact h.2)
    simp [Lib.indexByte, hb, ih]
theorem u8_back (c : UInt8) : ((c.toNat : Int).toNat.toUInt8) = c := by simp

/-! ### THE MODEL zzIn -/
theorem in_any (c : UInt8) (s : ByteArray) (w : World) (hs : s.size ≤ 9223372036854775807) :
    Calls Try.prog 12 #[.int .u8 (c.toNat : Int), .string s] w fun e w' => e = .returned (.bool (inB c s)) ∧ w = w' := by
  obtain ⟨b, hb⟩ : ∃ b, b = inB c s := ⟨_, rfl⟩
  rw [← hb]
  unfold inB at hb
  have HB := Lib.hid hb; clear hb
  go_enter Try.func12, Try.ntmps12
  go_wp2
  go_loop [5] (fun i => ∃ k : Nat, k ≤ s.size ∧ Hid (c ∉ s.data.toList.take k) ∧ i = .int .i64 k) (fun i => s.size - (intOf i).toNat)
  case atStart => exact ⟨0, by omega, Lib.hid (by simp), rfl⟩
  case round =>
    obtain ⟨k, hk, HK, rfl⟩ := hrel
    by_cases hlt : k < s.size
    · by_cases hc : s[k] = c
      · have hc1 : ((s[k].toNat : Int) == (c.toNat : Int)) = true := by rw [hc]; simp
        have H1 := Lib.hid (show c ∈ s.data.toList by
          have := List.mem_of_getElem? (get_list? s k hlt)
          rw [hc] at this; exact this)
        clear hc
        go_wp2
        go_ret
        exact ⟨ret_bool (by rw [HB.out]; simp [H1.out]), rfl⟩
      · have hc1 : ((s[k].toNat : Int) == (c.toNat : Int)) = false := by
          rw [beq_eq_false_iff_ne]; intro h; exact hc (UInt8.toNat_inj.1 (by omega))
        have HK2 := Lib.hid (show c ∉ s.data.toList.take (k + 1) by
          rw [List.take_succ_eq_append_getElem (by simpa using hlt), get_list s k hlt]
          simp only [List.mem_append, List.mem_singleton, not_or]
          exact ⟨HK.out, fun h => hc h.symm⟩)
        clear hc
        go_wp2
        go_round
        case rel => exact ⟨k + 1, by omega, HK2, by go_num⟩
        case measure => simp [intOf]; omega
    · have H1 := Lib.hid (show c ∉ s.data.toList by
        have e := HK.out
        rw [List.take_of_length_le (by rw [len_list]; omega)] at e; exact e)
      go_wp2
      go_ret
      exact ⟨ret_bool (by rw [HB.out]; simp [H1.out]), rfl⟩

/-! ### stripDirPrefix -/
theorem strip_none (path p al : ByteArray) (w : World) (h : Lib.hasPrefix path.data.toList p.data.toList = true) (h0 : p.size = 0) :
    Calls Try.prog 13 #[.string path, .string p, .string al] w fun e w' => e = .returned (.tuple #[.string path, .bool true]) ∧ w = w' := by
  go_enter Try.func13, Try.ntmps13
  go_wp2_with (go_at_call 15; refine (Try.strings_HasPrefix _ _ _).mono ?_; rintro e w' ⟨rfl, rfl⟩)
  go_ret2
  exact ⟨rfl, rfl⟩
theorem strip_same (path p al : ByteArray) (w : World) (h : Lib.hasPrefix path.data.toList p.data.toList = true) (h0 : 0 < p.size) (h1 : path.size = p.size) :
    Calls Try.prog 13 #[.string path, .string p, .string al] w fun e w' => e = .returned (.tuple #[.string { data := #[] }, .bool true]) ∧ w = w' := by
  have q0 : decide (p.size = 0) = false := decide_eq_false (by omega)
  go_enter Try.func13, Try.ntmps13
  go_wp2_with (go_at_call 15; refine (Try.strings_HasPrefix _ _ _).mono ?_; rintro e w' ⟨rfl, rfl⟩)
  go_ret2
  exact ⟨rfl, rfl⟩
theorem strip_in (path p al : ByteArray) (w : World) (h : Lib.hasPrefix path.data.toList p.data.toList = true) (h0 : 0 < p.size) (h1 : p.size < path.size) (hm : path.size ≤ 9223372036854775807) (hi : 0 ≤ Lib.indexByte al.data.toList (p[p.size - 1])) :
    Calls Try.prog 13 #[.string path, .string p, .string al] w fun e w' => e = .returned (.tuple #[.string (path.extract p.size path.size), .bool true]) ∧ w = w' := by
  have q0 : decide (p.size = 0) = false := decide_eq_false (by omega)
  have q1 : decide (path.size = p.size) = false := decide_eq_false (by omega)
  go_enter Try.func13, Try.ntmps13
  go_wp2_with (go_at_call 15; refine (Try.strings_HasPrefix _ _ _).mono ?_; rintro e w' ⟨rfl, rfl⟩)
  refine (Try.strings_IndexByte _ _ _).mono ?_
  rintro e w' ⟨rfl, rfl⟩
  go_wp2
  go_ret2
  exact ⟨rfl, rfl⟩
theorem strip_out (path p al : ByteArray) (w : World) (h : Lib.hasPrefix path.data.toList p.data.toList = true) (h0 : 0 < p.size) (h1 : p.size < path.size) (hm : path.size ≤ 9223372036854775807) (hi : Lib.indexByte al.data.toList (p[p.size - 1]) < 0) (hi : 0 ≤ Lib.indexByte al.data.toList path[p.size]) :
    Calls Try.prog 13 #[.string path, .string p, .string al] w fun e w' => e = .returned (.tuple #[.string (path.extract (p.size + 1) path.size), .bool true]) ∧ w = w' := by
  have q0 : decide (p.size = 0) = false := decide_eq_false (by omega)
  have q1 : decide (path.size = p.size) = false := decide_eq_false (by omega)
  go_enter Try.func13, Try.ntmps13
  go_wp2_with (go_at_call 15; refine (Try.strings_HasPrefix _ _ _).mono ?_; rintro e w' ⟨rfl, rfl⟩)
  refine (Try.strings_IndexByte _ _ _).mono ?_
  rintro e w' ⟨rfl, rfl⟩
  go_wp2_with fail
  refine (Try.strings_IndexByte _ _ _).mono ?_
  rintro e w' ⟨rfl, rfl⟩
  go_wp2
  go_ret2
  exact ⟨rfl, rfl⟩

/-! ### WHAT THE PROGRAM GIVES FOR A JOINED PATH -/
theorem pre_app (p r : ByteArray) : Lib.hasPrefix (p ++ r).data.toList p.data.toList = true := by
  unfold Lib.hasPrefix; rw [List.isPrefixOf_iff_prefix, list_append]; exact List.prefix_append _ _
theorem tail_app (p r : ByteArray) : (p ++ r).extract p.size (p ++ r).size = r := by
  apply ext_list
  rw [Lib.extract_data, list_append, ByteArray.size_append, ← len_list p, List.drop_left]
  exact List.take_of_length_le (by rw [len_list]; omega)
theorem last_mem (p : ByteArray) (h : 0 < p.size) : ∃ h : p.size - 1 < p.size, True := ⟨by omega, trivial⟩
theorem wrap8 (path p al : ByteArray) (r : ByteArray) (h : ∀ w, Calls Try.prog 13 #[.string path, .string p, .string al] w fun e w' => e = .returned (.tuple #[.string r, .bool true]) ∧ w = w') (w : World) :
    Calls Try.prog 8 #[.string path, .string p, .string al] w fun e w' => e = .returned (.tuple #[.string r, .bool true]) ∧ w = w' := by
  have H := Lib.hid h; clear h
  go_enter Try.func8, Try.ntmps8
  go_wp2_with fail
  refine (H.out _).mono ?_
  rintro e w' ⟨rfl, rfl⟩
  go_wp2
  go_ret2
  exact ⟨rfl, rfl⟩
theorem empty_of (r : ByteArray) (h : r.size = 0) : r = { data := #[] } := by
  apply ext_list; apply List.eq_nil_of_length_eq_zero; rw [len_list]; exact h
theorem strip_nil (r p al : ByteArray) (h : p.size = 0) (w : World) : Calls Try.prog 8 #[.string r, .string p, .string al] w fun e w' => e = .returned (.tuple #[.string r, .bool true]) ∧ w = w' :=
  wrap8 r p al r (fun w => strip_none r p al w (by rw [empty_of p h]; simp [Lib.hasPrefix]) h) w
theorem strip_app (p r al : ByteArray) (h : 0 < p.size) (hz : (p ++ r).size ≤ 9223372036854775807) (hin : inB (p[p.size - 1]) al = true) (w : World) :
    Calls Try.prog 8 #[.string (p ++ r), .string p, .string al] w fun e w' => e = .returned (.tuple #[.string r, .bool true]) ∧ w = w' := by
  have hs : (p ++ r).size = p.size + r.size := ByteArray.size_append
  refine wrap8 _ p al r (fun w => ?_) w
  by_cases h0 : r.size = 0
  · have := strip_same (p ++ r) p al w (pre_app p r) h (by omega)
    rw [← empty_of r h0] at this; exact this
  · have := strip_in (p ++ r) p al w (pre_app p r) h (by omega) hz (by unfold inB at hin; exact idx_in _ _ (of_decide_eq_true hin))
    rw [tail_app] at this; exact this
theorem strip_bare (p r al : ByteArray) (h : 0 < p.size) (h0 : r.size = 0) (w : World) :
    Calls Try.prog 8 #[.string p, .string p, .string al] w fun e w' => e = .returned (.tuple #[.string r, .bool true]) ∧ w = w' := by
  refine wrap8 _ p al r (fun w => ?_) w
  have := strip_same p p al w (by unfold Lib.hasPrefix; rw [List.isPrefixOf_iff_prefix]; exact List.prefix_rfl) h rfl
  rw [← empty_of r h0] at this; exact this
theorem strip_slash (p r al : ByteArray) (c : UInt8) (h : 0 < p.size) (hz : (p ++ (⟨#[c]⟩ : ByteArray) ++ r).size ≤ 9223372036854775807) (hin : inB (p[p.size - 1]) al = false) (hc : inB c al = true) (w : World) :
    Calls Try.prog 8 #[.string (p ++ (⟨#[c]⟩ : ByteArray) ++ r), .string p, .string al] w fun e w' => e = .returned (.tuple #[.string r, .bool true]) ∧ w = w' := by
  have hs : (p ++ (⟨#[c]⟩ : ByteArray) ++ r).size = p.size + 1 + r.size := by rw [ByteArray.size_append, ByteArray.size_append]; rfl
  have hlt : p.size < (p ++ (⟨#[c]⟩ : ByteArray) ++ r).size := by omega
  have hget : (p ++ (⟨#[c]⟩ : ByteArray) ++ r)[p.size]'hlt = c := by
    have := get_list? _ _ hlt
    rw [list_append, list_append] at this
    rw [List.getElem?_append_left (by simp), List.getElem?_append_right (by simp)] at this
    simp at this; exact this.symm
  refine wrap8 _ p al r (fun w => ?_) w
  have h1 := strip_out (p ++ (⟨#[c]⟩ : ByteArray) ++ r) p al w (by rw [show p ++ (⟨#[c]⟩ : ByteArray) ++ r = p ++ ((⟨#[c]⟩ : ByteArray) ++ r) by apply ext_list; rw [list_append, list_append, list_append, list_append, List.append_assoc]]; exact pre_app _ _) h hlt hz
    (by unfold inB at hin; rw [idx_out _ _ (of_decide_eq_false hin)]; decide) (by rw [hget]; unfold inB at hc; exact idx_in _ _ (of_decide_eq_true hc))
  have h2 := tail_app (p ++ (⟨#[c]⟩ : ByteArray)) r
  rw [show (p ++ (⟨#[c]⟩ : ByteArray)).size = p.size + 1 by rw [ByteArray.size_append]; rfl] at h2
  rw [h2] at h1; exact h1

/-! ### THE MODEL zzStripJoin -/
theorem join_nil (p r al : ByteArray) (c : Int) (h : p.size = 0) (w : World) : Calls Try.prog 7 #[.string p, .string r, .string al, .int .u8 c] w fun e w' => e = .returned (.tuple #[.string r, .bool true]) ∧ Below w.heap.size w w' := by
  obtain rfl := empty_of p h
  clear h
  go_enter Try.func7, Try.ntmps7
  go_wp2
  go_ret2
  exact ⟨rfl, Below.refl _ _⟩
theorem ne_empty (p : ByteArray) (h : 0 < p.size) : (p.toList == []) = false ∧ p.toList.isEmpty = false := by
  have : p.toList ≠ [] := by rw [Lib.toList_data]; intro h2; have := congrArg List.length h2; rw [len_list] at this; rw [List.length_nil] at this; omega
  exact ⟨by rw [beq_eq_false_iff_ne]; exact this, by simpa using this⟩
theorem join_app (p r al : ByteArray) (c : Int) (h : 0 < p.size) (hz : p.size + r.size ≤ 1048576) (ha : al.size ≤ 9223372036854775807) (hin : inB (p[p.size - 1]) al = true) (w : World) :
    Calls Try.prog 7 #[.string p, .string r, .string al, .int .u8 c] w fun e w' => e = .returned (.tuple #[.string (p ++ r), .bool true]) ∧ Below w.heap.size w w' := by
  have ⟨h1, h2⟩ := ne_empty p h
  go_enter Try.func7, Try.ntmps7
  go_wp2_with (go_at_call 12; refine (in_any _ _ _ ha).mono ?_; rintro e w' ⟨rfl, rfl⟩)
  go_ret2
  exact ⟨rfl, Below.refl _ _⟩
theorem join_bare (p r al : ByteArray) (c : Int) (h : 0 < p.size) (h0 : r.size = 0) (hz : p.size + r.size ≤ 1048576) (ha : al.size ≤ 9223372036854775807) (hin : inB (p[p.size - 1]) al = false) (w : World) :
    Calls Try.prog 7 #[.string p, .string r, .string al, .int .u8 c] w fun e w' => e = .returned (.tuple #[.string p, .bool true]) ∧ Below w.heap.size w w' := by
  have ⟨h1, h2⟩ := ne_empty p h
  obtain rfl := empty_of r h0
  clear h0
  go_enter Try.func7, Try.ntmps7
  go_wp2_with (go_at_call 12; refine (in_any _ _ _ ha).mono ?_; rintro e w' ⟨rfl, rfl⟩)
  go_ret2
  exact ⟨rfl, Below.refl _ _⟩
theorem join_not (p r al : ByteArray) (c : UInt8) (h : 0 < p.size) (h0 : 0 < r.size) (hz : p.size + r.size ≤ 1048576) (ha : al.size ≤ 9223372036854775807) (hin : inB (p[p.size - 1]) al = false) (hc : inB c al = false) (w : World) :
    Calls Try.prog 7 #[.string p, .string r, .string al, .int .u8 (c.toNat : Int)] w fun e w' => e = .returned (.tuple #[.string { data := #[] }, .bool false]) ∧ Below w.heap.size w w' := by
  have ⟨h1, h2⟩ := ne_empty p h
  have ⟨h3, h4⟩ := ne_empty r h0
  go_enter Try.func7, Try.ntmps7
  go_wp2_with (go_at_call 12; refine (in_any _ _ _ ha).mono ?_; rintro e w' ⟨rfl, rfl⟩)
  go_ret2
  exact ⟨rfl, Below.refl _ _⟩
theorem join_slash (p r al : ByteArray) (c : UInt8) (h : 0 < p.size) (h0 : 0 < r.size) (hz : p.size + r.size ≤ 1048576) (ha : al.size ≤ 9223372036854775807) (hin : inB (p[p.size - 1]) al = false) (hc : inB c al = true) (w : World) :
    Calls Try.prog 7 #[.string p, .string r, .string al, .int .u8 (c.toNat : Int)] w fun e w' => e = .returned (.tuple #[.string (p ++ (⟨#[c]⟩ : ByteArray) ++ r), .bool true]) ∧ Below w.heap.size w w' := by
  have ⟨h1, h2⟩ := ne_empty p h
  have ⟨h3, h4⟩ := ne_empty r h0
  have z1 : (⟨#[c]⟩ : ByteArray).size = 1 := rfl
  have hconv : (convert 32 9 (.slice (some ⟨w.heap.size, 0, none⟩) 1 1)).run Try.prog (w.alloc (.cells #[.int .u8 (c.toNat : Int)] 5)) = .ok (.string ⟨#[c]⟩) (w.alloc (.cells #[.int .u8 (c.toNat : Int)] 5)) := run_convert_bytes_back (P := Try.prog) (w.alloc (.cells #[.int .u8 (c.toNat : Int)] 5)) 32 9 5 ⟨w.heap.size, 0, none⟩ 1 [c] Try.underlying32 Try.underlying5 Try.underlying9 (fun j hj => by
    have : j = 0 := by simp at hj; exact hj
    subst this; simp [Addr.add])
  go_enter Try.func7, Try.ntmps7
  go_wp2_with (go_at_call 12; refine (in_any _ _ _ ha).mono ?_; rintro e w' ⟨rfl, rfl⟩)
  go_ret2
  exact ⟨rfl, (Below.refl _ _).alloc (Nat.le_refl _) _⟩

/-! ### THE LAW -/
theorem same_true (r : ByteArray) : (r.toList == r.toList) = true := by simp
theorem walk (a0 : ByteArray) (a1 : ByteArray) (a2 : ByteArray) (a3 : Int) (w : World) (w0 : a0.size ≤ maxLen) (w1 : a1.size ≤ maxLen) (w2 : a2.size ≤ maxLen) (w3 : (Lit.int .u8 a3).wf = true) :
    Calls Try.prog 3 #[.string a0, .string a1, .string a2, .int .u8 a3] w fun e w' => e = .returned (.bool true) ∧ Below w.heap.size w w' := by
  unfold maxLen at w0 w1 w2
  obtain ⟨c, rfl⟩ : ∃ c : UInt8, a3 = (c.toNat : Int) := by
    have b1 := bounds_u8 w3
    exact u8_of a3 (by omega) (by omega)
  clear w3
  by_cases hz : a0.size + a1.size + a2.size ≤ 1048576
  · have hr := same_true a1
    -- what the model and the program give
    have key : (∃ path : ByteArray, (∀ w, Calls Try.prog 7 #[.string a0, .string a1, .string a2, .int .u8 (c.toNat : Int)] w fun e w' => e = .returned (.tuple #[.string path, .bool true]) ∧ Below w.heap.size w w') ∧ (∀ w, Calls Try.prog 8 #[.string path, .string a0, .string a2] w fun e w' => e = .returned (.tuple #[.string a1, .bool true]) ∧ w = w'))
        ∨ (∀ w, Calls Try.prog 7 #[.string a0, .string a1, .string a2, .int .u8 (c.toNat : Int)] w fun e w' => e = .returned (.tuple #[.string { data := #[] }, .bool false]) ∧ Below w.heap.size w w') := by
      by_cases h : a0.size = 0
      · exact .inl ⟨a1, join_nil _ _ _ _ h, strip_nil _ _ _ h⟩
      · by_cases hin : inB (a0[a0.size - 1]'(by omega)) a2 = true
        · exact .inl ⟨_, join_app _ _ _ _ (by omega) (by omega) (by omega) hin, strip_app _ _ _ (by omega) (by rw [ByteArray.size_append]; omega) hin⟩
        · rw [Bool.not_eq_true] at hin
          by_cases h0 : a1.size = 0
          · exact .inl ⟨_, join_bare _ _ _ _ (by omega) h0 (by omega) (by omega) hin, strip_bare _ _ _ (by omega) h0⟩
          · by_cases hc : inB c a2 = true
            · exact .inl ⟨_, join_slash _ _ _ _ (by omega) (by omega) (by omega) (by omega) hin hc, strip_slash _ _ _ _ (by omega) (by rw [ByteArray.size_append, ByteArray.size_append]; show a0.size + 1 + a1.size ≤ _; omega) hin hc⟩
            · rw [Bool.not_eq_true] at hc
              exact .inr (join_not _ _ _ _ (by omega) (by omega) (by omega) (by omega) hin hc)
    rcases key with ⟨path, k1, k2⟩ | k1
    · have K1 := Lib.hid k1; have K2 := Lib.hid k2; clear k1 k2
      go_enter Try.func3, Try.ntmps3
      go_wp2_with (first | (go_at_call 5; go_in) | (go_at_call 6; go_in) | (go_at_call 7; refine (K1.out _).mono ?_; rintro e w1 ⟨rfl, hb1⟩) | (go_at_call 8; refine (K2.out _).mono ?_; rintro e w' ⟨rfl, rfl⟩))
      go_ret
      exact ⟨rfl, hb1⟩
    · have K1 := Lib.hid k1; clear k1
      go_enter Try.func3, Try.ntmps3
      go_wp2_with (first | (go_at_call 5; go_in) | (go_at_call 6; go_in) | (go_at_call 7; refine (K1.out _).mono ?_; rintro e w1 ⟨rfl, hb1⟩))
      go_ret
      exact ⟨rfl, hb1⟩
  · go_enter Try.func3, Try.ntmps3
    go_wp2_with (go_at_call 5; go_in)
    all_goals (go_ret; exact ⟨rfl, Below.refl _ _⟩)
end Go.Proofs.Yteibgnldkimkoaa.fnStripDirPrefixInvertsJoin
