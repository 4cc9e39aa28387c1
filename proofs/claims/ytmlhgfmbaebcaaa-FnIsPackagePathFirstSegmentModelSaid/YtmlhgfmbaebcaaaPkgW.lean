/- The walk of the law FnIsPackagePathFirstSegmentModel: for every string it returns true. No condition. -/
import Derived.Test.YtmlhgfmbaebcaaaRows
import Derived.WalkKit
import Derived.ProofKit
import Derived.OpenShut
import Derived.ShutString
import Derived.WalkLawsBesides
import Derived.WalkSpells
import Derived.Handy
import Derived.Outline
import Derived.Lib.Hide
import Derived.Lib.Strings
namespace Go.Proofs.Ytmlhgfmbaebcaaa.fnIsPackagePathFirstSegmentModel
open Go.ChangeShapes Go.WideShapes Go.ChangeAt Go.RowKit
open Go.ChangeMaps (open_string shut_string)
set_option linter.unusedVariables false

/-! ### THE PLAIN LAW -/
theorem ret_bool {a b : Bool} (h : a = b) : Ending.returned (.bool a) = .returned (.bool b) := by rw [h]
def hasPreB (s p : ByteArray) : Bool := p.data.toList.isPrefixOf s.data.toList
theorem hasPre_yes (s p : ByteArray) (h : p.size ≤ s.size) : ((s.extract 0 p.size).toList == p.toList) = hasPreB s p := by
  unfold hasPreB
  rw [Lib.extract_toList, Lib.toList_data]
  have e : p.size = p.data.toList.length := by simp
  rw [e, Bool.eq_iff_iff, beq_iff_eq, List.isPrefixOf_iff_prefix, List.prefix_iff_eq_take]
  simp [eq_comm]
theorem hasPre_no (s p : ByteArray) (h : ¬ p.size ≤ s.size) : hasPreB s p = false := by
  unfold hasPreB
  rw [Bool.eq_false_iff]
  intro hc
  rw [List.isPrefixOf_iff_prefix] at hc
  have := hc.length_le
  simp at this
  exact h this

theorem hasp (s p : ByteArray) (w : World) (hs : s.size ≤ maxLen) (hp : p.size ≤ maxLen) :
    Calls Try.prog 20 #[.string s, .string p] w fun e w' => e = .returned (.bool (hasPreB s p)) ∧ w = w' := by
  unfold maxLen at hs hp
  by_cases h : p.size ≤ s.size
  · have H := Lib.hid (hasPre_yes s p h)
    go_enter Try.func20, Try.ntmps20
    go_wp2
    go_ret
    exact ⟨ret_bool H.out, rfl⟩
  · have H := Lib.hid (hasPre_no s p h)
    go_enter Try.func20, Try.ntmps20
    go_wp2
    go_ret
    exact ⟨ret_bool H.out.symm, rfl⟩

def pathL (l : List UInt8) : Bool := !(([47] : List UInt8).isPrefixOf l) && !(([46, 47] : List UInt8).isPrefixOf l) && !(([46, 46, 47] : List UInt8).isPrefixOf l) && !(l == [46]) && !(l == [46, 46])
def segL (l : List UInt8) : List UInt8 := l.take (l.findIdx (· == 47))
def modelL (l : List UInt8) : Bool :=
  if l.findIdx (· == 47) < l.length then !(segL l).isEmpty && !(segL l == [46]) && !(segL l == [46, 46]) else !(segL l == [46]) && !(segL l == [46, 46])
theorem seg_cons (c : UInt8) (t : List UInt8) (h : (c == 47) = false) : segL (c :: t) = c :: segL t := by
  unfold segL; rw [List.findIdx_cons, h]; simp
theorem seg_slash (t : List UInt8) : segL (47 :: t) = [] := by
  unfold segL; rw [List.findIdx_cons]; simp
theorem lt_cons (c : UInt8) (t : List UInt8) (h : (c == 47) = false) : (c :: t).findIdx (· == 47) < (c :: t).length ↔ t.findIdx (· == 47) < t.length := by
  rw [List.findIdx_cons, h]; simp
theorem lt_slash (t : List UInt8) : (47 :: t : List UInt8).findIdx (· == 47) < (47 :: t : List UInt8).length := by
  rw [List.findIdx_cons]; simp
theorem pk_eq (l : List UInt8) : pathL l = modelL l := by
  have p47 : ∀ x : UInt8, (47 == x) = (x == 47) := fun x => by rw [Bool.eq_iff_iff, beq_iff_eq, beq_iff_eq]; exact eq_comm
  have p46 : ∀ x : UInt8, (46 == x) = (x == 46) := fun x => by rw [Bool.eq_iff_iff, beq_iff_eq, beq_iff_eq]; exact eq_comm
  unfold modelL pathL
  match l with
  | [] => rfl
  | a :: t =>
    by_cases ha : a = 47
    · subst ha; rw [if_pos (lt_slash t)]; simp [seg_slash]
    · have ha' : (a == 47) = false := by simpa using ha
      simp only [lt_cons a t ha', seg_cons a t ha', List.isPrefixOf, p47, p46, ha']
      by_cases hb : a = 46
      · subst hb
        match t with
        | [] => simp [segL]
        | b :: t =>
          by_cases hb : b = 47
          · subst hb; simp [seg_slash]
          · have hb' : (b == 47) = false := by simpa using hb
            simp only [lt_cons b t hb', seg_cons b t hb', List.isPrefixOf, p47, p46, hb']
            by_cases hb : b = 46
            · subst hb
              match t with
              | [] => simp [segL]
              | c :: t =>
                by_cases hc : c = 47
                · subst hc; simp [seg_slash]
                · have hc' : (c == 47) = false := by simpa using hc
                  simp only [lt_cons c t hc', seg_cons c t hc', List.isPrefixOf, p47, hc']
                  simp
            · have hb2 : (b == 46) = false := by simpa using hb
              simp [hb2]
      · have hb2 : (a == 46) = false := by simpa using hb
        simp [hb2]

def slash (s : ByteArray) : Nat := s.data.toList.findIdx (· == 47)
theorem get_list (s : ByteArray) (k : Nat) (h : k < s.size) : s.data.toList[k]'(by simpa using h) = s[k] := rfl
theorem u8_eq (u : UInt8) (n : Nat) (h : n < 256) : (u.toNat : Int) = n ↔ u = UInt8.ofNat n := by
  rw [← UInt8.toNat_inj, UInt8.toNat_ofNat']; omega
theorem slash_step (s : ByteArray) (k : Nat) (h : k < s.size) (hk : k ≤ slash s) (hc : ¬ (s[k].toNat : Int) = 47) : k + 1 ≤ slash s := by
  have hl : k < s.data.toList.length := by simpa using h
  have hn : s[k] ≠ 47 := fun e => hc (by rw [e]; rfl)
  rcases Nat.lt_or_ge k (slash s) with h1 | h1
  · omega
  · exfalso
    have e : s.data.toList.findIdx (· == 47) = k := by unfold slash at hk h1; omega
    have := @List.findIdx_getElem _ (· == 47) s.data.toList (by rw [e]; exact hl)
    simp only [e, get_list s k h] at this
    exact hn (by simpa using this)
theorem slash_here (s : ByteArray) (k : Nat) (h : k < s.size) (hk : k ≤ slash s) (hc : (s[k].toNat : Int) = 47) : slash s = k := by
  have hl : k < s.data.toList.length := by simpa using h
  have hn : s[k] = 47 := by rw [← UInt8.toNat_inj]; show _ = 47; omega
  refine Nat.le_antisymm ?_ hk
  rcases Nat.lt_or_ge k (slash s) with h1 | h1
  · exfalso
    have := List.not_of_lt_findIdx (p := (· == 47)) (xs := s.data.toList) (i := k) h1
    rw [get_list s k h, hn] at this
    exact absurd this (by decide)
  · exact h1
theorem slash_le (s : ByteArray) : slash s ≤ s.size := by
  have := List.findIdx_le_length (p := (· == (47 : UInt8))) (xs := s.data.toList)
  simpa [slash] using this
theorem seg_is (s : ByteArray) (k : Nat) (h : slash s = k) : (s.extract 0 k).toList = segL s.data.toList := by
  rw [Lib.extract_toList]; subst h; simp [segL, slash]
theorem model_in (s : ByteArray) (k : Nat) (h : slash s = k) (hk : k < s.size) : modelL s.data.toList = (!(s.extract 0 k).toList.isEmpty && !(s.extract 0 k).toList == [46] && !(s.extract 0 k).toList == [46, 46]) := by
  rw [seg_is s k h]; unfold modelL; rw [if_pos (by show slash s < s.data.toList.length; rw [h]; simpa using hk)]
theorem model_out (s : ByteArray) (k : Nat) (h : slash s = k) (hk : ¬ k < s.size) : modelL s.data.toList = (!(s.extract 0 k).toList == [46] && !(s.extract 0 k).toList == [46, 46]) := by
  rw [seg_is s k h]; unfold modelL; rw [if_neg (by show ¬ slash s < s.data.toList.length; rw [h]; simpa using hk)]
theorem path_is (s : ByteArray) : pathL s.data.toList = (!hasPreB s { data := #[47] } && !hasPreB s { data := #[46, 47] } && !hasPreB s { data := #[46, 46, 47] } && !s.toList == [46] && !s.toList == [46, 46]) := by
  rw [Lib.toList_data]; rfl

/-! ### THE CALLEES -/
theorem model (s : ByteArray) (w : World) (hs : s.size ≤ maxLen) :
    Calls Try.prog 15 #[.string s] w fun e w' => e = .returned (.bool (modelL s.data.toList)) ∧ w = w' := by
  unfold maxLen at hs
  obtain ⟨b, hb⟩ : ∃ b, b = modelL s.data.toList := ⟨_, rfl⟩
  rw [← hb]
  have HB := Lib.hid hb; clear hb
  go_enter Try.func15, Try.ntmps15
  go_wp2
  go_loop [3] (fun i => ∃ k : Nat, k ≤ s.size ∧ k ≤ slash s ∧ i = .int .i64 k) (fun i => s.size - (intOf i).toNat)
  case atStart => exact ⟨0, by omega, by omega, rfl⟩
  case round =>
    obtain ⟨k, hk, hk2, rfl⟩ := hrel
    by_cases hlt : k < s.size
    · by_cases hc : ((s[k].toNat : Int) = 47)
      · have hc1 : ((s[k].toNat : Int) != 47) = false := by rw [bne_eq_false_iff_eq]; exact hc
        have HM := Lib.hid (model_in s k (slash_here s k hlt hk2 hc) hlt)
        clear hc
        go_wp2
        all_goals (go_ret; refine ⟨ret_bool ?_, rfl⟩; rw [HB.out, HM.out]; try simp [*])
      · have hc1 : ((s[k].toNat : Int) != 47) = true := by rw [bne_iff_ne]; exact hc
        have hk3 : k + 1 ≤ slash s := slash_step s k hlt hk2 hc
        clear hc
        go_wp2
        go_round
        case rel => exact ⟨k + 1, by omega, by omega, by go_num⟩
        case measure => simp [intOf]; omega
    · have HM := Lib.hid (model_out s k (by have := slash_le s; omega) hlt)
      go_wp2
      all_goals (go_ret; refine ⟨ret_bool ?_, rfl⟩; rw [HB.out, HM.out]; try simp [*])

theorem pk (s : ByteArray) (w : World) (hs : s.size ≤ maxLen) :
    Calls Try.prog 14 #[.string s] w fun e w' => e = .returned (.bool (pathL s.data.toList)) ∧ w = w' := by
  have HS := Lib.hid hs
  unfold maxLen at hs
  obtain ⟨b, hb⟩ : ∃ b, b = pathL s.data.toList := ⟨_, rfl⟩
  rw [← hb]
  rw [path_is] at hb
  have HB := Lib.hid hb; clear hb
  go_enter Try.func14, Try.ntmps14
  go_wp2_with ((go_at_call 20; refine (hasp _ _ _ HS.out (by decide)).mono ?_; rintro e w' ⟨rfl, rfl⟩))
  all_goals (go_ret; refine ⟨ret_bool ?_, rfl⟩; rw [HB.out]; simp [*])

/-! ### THE LAW -/
theorem walk (a0 : ByteArray) (w0 : a0.size ≤ maxLen) (w : World) :
    Calls Try.prog 7 #[.string a0] w fun e w' => e = .returned (.bool true) ∧ Grown w w' := by
  have hp := pk a0
  have hm := model a0
  rw [pk_eq] at hp
  generalize modelL a0.data.toList = b at hp hm
  have HP := Lib.hid hp; have HM := Lib.hid hm; clear hp hm
  have H0 := Lib.hid w0
  unfold maxLen at w0
  go_enter Try.func7, Try.ntmps7
  go_wp2_with (first | (go_at_call 14; refine (HP.out _ H0.out).mono ?_; rintro e w' ⟨rfl, rfl⟩) | (go_at_call 15; refine (HM.out _ H0.out).mono ?_; rintro e w' ⟨rfl, rfl⟩) | (go_at_call 13; go_in))
  all_goals (go_ret; exact ⟨by simp, Grown.refl _⟩)
end Go.Proofs.Ytmlhgfmbaebcaaa.fnIsPackagePathFirstSegmentModel
