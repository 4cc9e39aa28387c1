/- The callees of the laws over data URLs by their contracts: ParseDataURL, DecodeMIMEType and the models zzIsTypeOrParams, zzHasPrefix, zzHasSuffix, zzContainsByte compute the plain functions below. Conditions: lengths that fit an int. -/
import Derived.Test.YtejamkblebdheaaRows
import Derived.Test.YtejamkblebdheaaBase
import Derived.Test.YtejamkblebdheaaShelf
import Derived.WalkKit
import Derived.ProofKit
import Derived.OpenShut
import Derived.ShutString
import Derived.WalkLawsBesides
import Derived.WalkSpells
import Derived.Handy
import Derived.Outline
import Derived.Deep.QuietTactic
import Derived.BigQuiet
import Derived.Lib.IndexLaws
namespace Go.Proofs.Ytejamkblebdheaa.Url
open Go.ChangeShapes Go.WideShapes Go.ChangeAt Go.RowKit Go.Proofs.Ytejamkblebdheaa.Base
set_option linter.unusedVariables false

/-! ### PLAIN -/
def cutAt (c : UInt8) (l : List UInt8) : List UInt8 := l.takeWhile (· != c)
theorem idx (c : UInt8) : ∀ l : List UInt8, (Lib.indexByte l c = -1 ∧ cutAt c l = l ∧ c ∉ l) ∨ ∃ o : Nat, Lib.indexByte l c = o ∧ o < l.length ∧ l.take o = cutAt c l ∧ l[o]? = some c
  | [] => .inl ⟨rfl, rfl, by simp⟩
  | b :: l => by
    by_cases h : b = c
    · subst h
      right
      exact ⟨0, by simp [Lib.indexByte], by simp, by simp [cutAt], by simp⟩
    · have hb : (b == c) = false := by simpa using h
      have hb' : (b != c) = true := by simpa using h
      rcases idx c l with ⟨h1, h2, h3⟩ | ⟨o, h1, h2, h3, h4⟩
      · left
        refine ⟨by simp [Lib.indexByte, hb, h1], ?_, ?_⟩
        · unfold cutAt at h2 ⊢; rw [List.takeWhile_cons, hb', if_pos rfl, h2]
        · simp [Ne.symm h, h3]
      · right
        refine ⟨o + 1, ?_, by simp; omega, ?_, by simpa using h4⟩
        · simp only [Lib.indexByte, hb, h1]
          rw [if_neg (by decide), if_neg (by simp)]; rfl
        · unfold cutAt at h3 ⊢; rw [List.takeWhile_cons, hb', if_pos rfl, List.take_succ_cons, h3]
theorem cut_append {c : UInt8} : ∀ {p : List UInt8} (r : List UInt8), c ∉ p → cutAt c (p ++ r) = p ++ cutAt c r
  | [], r, _ => rfl
  | b :: p, r, h => by
    have hb : (b != c) = true := by simp at h; simpa using Ne.symm h.1
    have ih := cut_append (c := c) (p := p) r (by simp at h; exact h.2)
    unfold cutAt at ih ⊢
    rw [List.cons_append, List.takeWhile_cons, hb, if_pos rfl, ih]; rfl
theorem cut_self {c : UInt8} {p : List UInt8} (h : c ∉ p) : cutAt c p = p := by
  have := cut_append (c := c) (p := p) [] h
  simpa [cutAt] using this
/-- What stands ahead of the first c is p: the text is p, or p, c and more. -/
theorem cut_eq (c : UInt8) (s p : List UInt8) (h : c ∉ p) : cutAt c s = p ↔ s = p ∨ (p <+: s ∧ s[p.length]? = some c) := by
  constructor
  · intro e
    have hs : s = p ++ s.dropWhile (· != c) := by
      rw [← e]; exact (List.takeWhile_append_dropWhile ..).symm
    rcases hd : s.dropWhile (· != c) with _ | ⟨d, r⟩
    · left; rw [hd] at hs; simpa using hs
    · right
      rw [hd] at hs
      have hdc : d = c := by
        have := List.head?_dropWhile_not (· != c) s
        rw [hd] at this
        simpa using this
      subst hdc
      exact ⟨⟨_, hs.symm⟩, by rw [hs]; simp⟩
  · rintro (rfl | ⟨⟨r, rfl⟩, h2⟩)
    · exact cut_self h
    · rw [cut_append r h]
      cases r with
      | nil => simp at h2
      | cons d r => simp at h2; subst h2; simp [cutAt]
def css : List UInt8 := [116, 101, 120, 116, 47, 99, 115, 115]
def js : List UInt8 := [116, 101, 120, 116, 47, 106, 97, 118, 97, 115, 99, 114, 105, 112, 116]
def json : List UInt8 := [97, 112, 112, 108, 105, 99, 97, 116, 105, 111, 110, 47, 106, 115, 111, 110]
def mimeN (l : List UInt8) : Int := if cutAt 59 l == css then 1 else if cutAt 59 l == js then 2 else if cutAt 59 l == json then 3 else 0

/-! ### THE MODELS -/
theorem take_step (s p : ByteArray) (k : Nat) (hs : k < s.size) (hp : k < p.size) (h : s.data.toList.take k = p.data.toList.take k) (he : s[k] = p[k]) : s.data.toList.take (k + 1) = p.data.toList.take (k + 1) := by
  rw [List.take_succ_eq_append_getElem (by simpa using hs), List.take_succ_eq_append_getElem (by simpa using hp), h, get_list s k hs, get_list p k hp, he]
theorem take_all (s p : ByteArray) (h : s.data.toList.take p.size = p.data.toList.take p.size) : Lib.hasPrefix s.data.toList p.data.toList = true := by
  unfold Lib.hasPrefix
  rw [List.isPrefixOf_iff_prefix, List.prefix_iff_eq_take]
  have e : p.data.toList.take p.size = p.data.toList := List.take_of_length_le (by simp)
  rw [e] at h; rw [len_list]; exact h.symm
theorem pre_short (s p : ByteArray) (h : s.size < p.size) : Lib.hasPrefix s.data.toList p.data.toList = false := by
  unfold Lib.hasPrefix
  rw [Bool.eq_false_iff]; intro hc
  have := (List.isPrefixOf_iff_prefix.1 hc).length_le
  rw [len_list, len_list] at this; omega
theorem pre_part (s p : ByteArray) (k : Nat) (hs : k < s.size) (hp : k < p.size) (he : ¬ (s[k].toNat : Int) = p[k].toNat) : Lib.hasPrefix s.data.toList p.data.toList = false := by
  unfold Lib.hasPrefix
  rw [Bool.eq_false_iff]; intro hc
  obtain ⟨r, hr⟩ := List.isPrefixOf_iff_prefix.1 hc
  apply he
  have h1 := get_list? s k hs
  have h2 := get_list? p k hp
  rw [← hr, List.getElem?_append_left (by simpa using hp), h2] at h1
  simp at h1; rw [h1]
theorem zhp_any (s p : ByteArray) (w : World) (hs : s.size ≤ 9223372036854775807) (hp : p.size ≤ 9223372036854775807) :
    Calls Try.prog 16 #[.string s, .string p] w fun e w' => e = .returned (.bool (Lib.hasPrefix s.data.toList p.data.toList)) ∧ ∃ n, w' = w.drewN n := by
  obtain ⟨b, hb⟩ : ∃ b, b = Lib.hasPrefix s.data.toList p.data.toList := ⟨_, rfl⟩
  rw [← hb]
  have HB := Lib.hid hb; clear hb
  by_cases h : s.size < p.size
  · have H1 := Lib.hid (pre_short s p h)
    go_enter Try.func16, Try.ntmps16
    go_wp2
    go_ret
    exact ⟨ret_bool (by rw [HB.out, H1.out]), 0, rfl⟩
  · go_enter Try.func16, Try.ntmps16
    go_wp2
    go_loopw [5] (fun i wr => ∃ k n : Nat, k ≤ p.size ∧ Hid (s.data.toList.take k = p.data.toList.take k) ∧ i = .int .i64 k ∧ wr = w.drewN n) (fun i _ => p.size - (intOf i).toNat)
    case atStart => exact ⟨0, 0, by omega, Lib.hid (by simp), rfl, rfl⟩
    case round =>
      obtain ⟨k, n, hk, HK, rfl, rfl⟩ := hrel
      by_cases hlt : k < p.size
      · have hls : k < s.size := by omega
        by_cases he : (s[k].toNat : Int) = p[k].toNat
        · have he1 : ((s[k].toNat : Int) != p[k].toNat) = false := by rw [bne_eq_false_iff_eq]; exact he
          have HK2 := Lib.hid (take_step s p k hls hlt HK.out (UInt8.toNat_inj.1 (by omega)))
          clear he
          go_wp2
          go_quiet (fail)
          go_wp2
          go_roundw
          case rel => exact ⟨k + 1, _, by omega, HK2, by go_num, rfl⟩
          case measure => simp [intOf]; omega
        · have he1 : ((s[k].toNat : Int) != p[k].toNat) = true := by rw [bne_iff_ne]; exact he
          have H1 := Lib.hid (pre_part s p k hls hlt he)
          clear he
          go_wp2
          go_quiet (fail)
          go_wp2
          go_ret
          exact ⟨ret_bool (by rw [HB.out, H1.out]), _, World.drewN_drewN _ _ _⟩
      · have H1 := Lib.hid (take_all s p (by have e : k = p.size := by omega
                                             subst e; exact HK.out))
        go_wp2
        go_ret
        exact ⟨ret_bool (by rw [HB.out, H1.out]), _, rfl⟩

theorem tp_yes (s p : ByteArray) (h59 : (59 : UInt8) ∉ p.data.toList) (h : (s.toList == p.toList) = true) : (cutAt 59 s.data.toList == p.data.toList) = true := by
  rw [Lib.toList_data, Lib.toList_data, beq_iff_eq] at h
  rw [beq_iff_eq, h]; exact cut_self h59
theorem tp_short (s p : ByteArray) (h59 : (59 : UInt8) ∉ p.data.toList) (h : (s.toList == p.toList) = false) (hlt : ¬ p.size < s.size) : (cutAt 59 s.data.toList == p.data.toList) = false := by
  rw [Lib.toList_data, Lib.toList_data, beq_eq_false_iff_ne] at h
  rw [beq_eq_false_iff_ne]; intro hc
  rcases (cut_eq 59 _ _ h59).1 hc with h1 | ⟨h1, h2⟩
  · exact h h1
  · have := (List.getElem?_eq_some_iff.1 h2).1
    rw [len_list, len_list] at this; exact hlt this
theorem tp_no (s p : ByteArray) (h59 : (59 : UInt8) ∉ p.data.toList) (h : (s.toList == p.toList) = false) (hp : Lib.hasPrefix s.data.toList p.data.toList = false) : (cutAt 59 s.data.toList == p.data.toList) = false := by
  rw [Lib.toList_data, Lib.toList_data, beq_eq_false_iff_ne] at h
  rw [beq_eq_false_iff_ne]; intro hc
  rcases (cut_eq 59 _ _ h59).1 hc with h1 | ⟨h1, h2⟩
  · exact h h1
  · unfold Lib.hasPrefix at hp; rw [List.isPrefixOf_iff_prefix.2 h1] at hp; cases hp
theorem tp_in (s p : ByteArray) (h59 : (59 : UInt8) ∉ p.data.toList) (h : (s.toList == p.toList) = false) (hp : Lib.hasPrefix s.data.toList p.data.toList = true) (hlt : p.size < s.size) :
    ((s[p.size].toNat : Int) == 59) = (cutAt 59 s.data.toList == p.data.toList) := by
  rw [Lib.toList_data, Lib.toList_data, beq_eq_false_iff_ne] at h
  rw [Bool.eq_iff_iff, beq_iff_eq, beq_iff_eq, cut_eq 59 _ _ h59, len_list, get_list? s p.size hlt]
  have e := u8_eq s[p.size] 59 (by omega)
  constructor
  · intro hb
    exact .inr ⟨List.isPrefixOf_iff_prefix.1 hp, by rw [e.1 hb]; rfl⟩
  · rintro (h1 | ⟨_, h2⟩)
    · exact absurd h1 h
    · exact e.2 (by simpa using h2)
theorem tp_any (s p : ByteArray) (w : World) (hs : s.size ≤ 9223372036854775807) (hp : p.size ≤ 9223372036854775807) (h59 : (59 : UInt8) ∉ p.data.toList) :
    Calls Try.prog 9 #[.string s, .string p] w fun e w' => e = .returned (.bool (cutAt 59 s.data.toList == p.data.toList)) ∧ ∃ n, w' = w.drewN n := by
  obtain ⟨b, hb⟩ : ∃ b, b = (cutAt 59 s.data.toList == p.data.toList) := ⟨_, rfl⟩
  rw [← hb]
  have HB := Lib.hid hb
  have H59 := Lib.hid h59; clear hb h59
  by_cases h1 : (s.toList == p.toList) = true
  · have HR := Lib.hid (tp_yes s p H59.out h1)
    go_enter Try.func9, Try.ntmps9
    go_wp2
    go_ret
    exact ⟨ret_bool (by rw [HB.out, HR.out]), 0, rfl⟩
  · rw [Bool.not_eq_true] at h1
    by_cases hlt : p.size < s.size
    · by_cases hpre : Lib.hasPrefix s.data.toList p.data.toList = true
      · have HR := Lib.hid (tp_in s p H59.out h1 hpre hlt)
        go_enter Try.func9, Try.ntmps9
        go_wp2_with (go_at_call 16; refine (zhp_any _ _ _ hs hp).mono ?_; rintro e w' ⟨rfl, n, rfl⟩)
        go_ret
        exact ⟨ret_bool (by rw [HB.out, HR.out]), _, rfl⟩
      · rw [Bool.not_eq_true] at hpre
        have HR := Lib.hid (tp_no s p H59.out h1 hpre)
        go_enter Try.func9, Try.ntmps9
        go_wp2_with (go_at_call 16; refine (zhp_any _ _ _ hs hp).mono ?_; rintro e w' ⟨rfl, n, rfl⟩)
        go_ret
        exact ⟨ret_bool (by rw [HB.out, HR.out]), _, rfl⟩
    · have HR := Lib.hid (tp_short s p H59.out h1 hlt)
      go_enter Try.func9, Try.ntmps9
      go_wp2
      go_ret
      exact ⟨ret_bool (by rw [HB.out, HR.out]), 0, rfl⟩

/-! ### THE PROGRAM's FUNCTIONS -/
theorem mime_any (m d : ByteArray) (b : Bool) (w : World) (hs : m.size ≤ 9223372036854775807) :
    Calls Try.prog 7 #[.agg #[.string m, .string d, .bool b]] w fun e w' => e = .returned (.int .u8 (mimeN m.data.toList)) ∧ Below w.heap.size w w' := by
  obtain ⟨v, hv⟩ : ∃ v, v = mimeN m.data.toList := ⟨_, rfl⟩
  rw [← hv]
  unfold mimeN css js json at hv
  rcases idx 59 m.data.toList with ⟨h1, h2, _⟩ | ⟨c, h1, h2, h3, _⟩
  · rw [h2, ← Lib.toList_data] at hv
    have HV := Lib.hid hv; clear hv h2
    have hneg : ((-1 : Int) != -1) = false := by decide
    go_enter Try.func7, Try.ntmps7
    go_wp2_with fail
    refine (Try.strings_IndexByte _ _ _).mono ?_
    rintro e w' ⟨rfl, rfl⟩
    go_wp2
    all_goals (go_ret; refine ⟨ret_int ?_, (Below.refl _ _).alloc (Nat.le_refl _) _⟩; rw [HV.out]; simp [*])
  · have e : (m.extract 0 c).toList = cutAt 59 m.data.toList := by rw [Lib.extract_toList, ← h3]; simp
    rw [← e] at hv
    have HV := Lib.hid hv; clear hv h3 e
    rw [len_list] at h2
    have hne : ((c : Int) != -1) = true := by rw [bne_iff_ne]; omega
    go_enter Try.func7, Try.ntmps7
    go_wp2_with fail
    refine (Try.strings_IndexByte _ _ _).mono ?_
    rintro e w' ⟨rfl, rfl⟩
    go_wp2
    all_goals (go_ret; refine ⟨ret_int ?_, (Below.refl _ _).alloc (Nat.le_refl _) _⟩; rw [HV.out]; simp [*])

theorem fields_any (m d : ByteArray) (b : Bool) (w : World) :
    Calls Try.prog 8 #[.agg #[.string m, .string d, .bool b]] w fun e w' => e = .returned (.tuple #[.string m, .string d, .bool b]) ∧ Below w.heap.size w w' := by
  go_enter Try.func8, Try.ntmps8
  go_wp2
  go_quiet (fail)
  go_wp2
  go_ret3
  exact ⟨rfl, below_drewN ((Below.refl _ _).alloc (Nat.le_refl _) _) _⟩

/-! ### ParseDataURL -/
def datac : List UInt8 := [100, 97, 116, 97, 58]
theorem parse_no (u : ByteArray) (w : World) (h : Lib.hasPrefix u.data.toList [100, 97, 116, 97, 58] = false ∨ Lib.indexByte u.data.toList 44 = -1) :
    Calls Try.prog 6 #[.string u] w fun e w' => e = .returned (.tuple #[.agg #[.string { data := #[] }, .string { data := #[] }, .bool false], .bool false]) ∧ Below w.heap.size w w' := by
  by_cases hp : Lib.hasPrefix u.data.toList [100, 97, 116, 97, 58] = true
  · have hi : Lib.indexByte u.data.toList 44 = -1 := by
      rcases h with h | h
      · rw [h] at hp; cases hp
      · exact h
    have hneg : ((-1 : Int) != -1) = false := by decide
    clear h
    go_enter Try.func6, Try.ntmps6
    go_wp2_with fail
    refine (Try.strings_HasPrefix _ _ _).mono ?_
    rintro e w' ⟨rfl, rfl⟩
    go_wp2_with fail
    refine (Try.strings_IndexByte _ _ _).mono ?_
    rintro e w' ⟨rfl, rfl⟩
    go_wp2
    go_returns
    exact ⟨rfl, (Below.refl _ _).alloc (Nat.le_refl _) _⟩
  · rw [Bool.not_eq_true] at hp
    clear h
    go_enter Try.func6, Try.ntmps6
    go_wp2_with fail
    refine (Try.strings_HasPrefix _ _ _).mono ?_
    rintro e w' ⟨rfl, rfl⟩
    go_wp2
    go_returns
    exact ⟨rfl, (Below.refl _ _).alloc (Nat.le_refl _) _⟩
theorem parse_plain (u : ByteArray) (w : World) (hs : u.size ≤ 9223372036854775807) (h : Lib.hasPrefix u.data.toList [100, 97, 116, 97, 58] = true) (c : Nat) (hc : Lib.indexByte u.data.toList 44 = c) (h5 : 5 ≤ c) (h6 : c < u.size)
    (hx : Lib.hasSuffix (List.take (c - 5) (List.drop 5 u.data.toList)) [59, 98, 97, 115, 101, 54, 52] = false) :
    Calls Try.prog 6 #[.string u] w fun e w' => e = .returned (.tuple #[.agg #[.string (u.extract 5 c), .string (u.extract (c + 1) u.size), .bool false], .bool true]) ∧ Below w.heap.size w w' := by
  have hne : ((c : Int) != -1) = true := by rw [bne_iff_ne]; omega
  have hz : (u.extract 5 c).size ≤ 9223372036854775807 := by rw [ByteArray.size_extract]; omega
  have HZ := Lib.hid hz; clear hz
  go_enter Try.func6, Try.ntmps6
  go_wp2_with fail
  refine (Try.strings_HasPrefix _ _ _).mono ?_
  rintro e w' ⟨rfl, rfl⟩
  go_wp2_with fail
  refine (Try.strings_IndexByte _ _ _).mono ?_
  rintro e w' ⟨rfl, rfl⟩
  go_wp2_with fail
  refine (Try.strings_HasSuffix _ _ _ HZ.out).mono ?_
  rintro e w' ⟨rfl, rfl⟩
  go_wp2
  go_returns
  exact ⟨rfl, (Below.refl _ _).alloc (Nat.le_refl _) _⟩
theorem parse_b64 (u : ByteArray) (w : World) (hs : u.size ≤ 9223372036854775807) (h : Lib.hasPrefix u.data.toList [100, 97, 116, 97, 58] = true) (c : Nat) (hc : Lib.indexByte u.data.toList 44 = c) (h5 : 12 ≤ c) (h6 : c < u.size)
    (hx : Lib.hasSuffix (List.take (c - 5) (List.drop 5 u.data.toList)) [59, 98, 97, 115, 101, 54, 52] = true) :
    Calls Try.prog 6 #[.string u] w fun e w' => e = .returned (.tuple #[.agg #[.string ((u.extract 5 c).extract 0 (min c u.size - 5 - 7)), .string (u.extract (c + 1) u.size), .bool true], .bool true]) ∧ Below w.heap.size w w' := by
  have hne : ((c : Int) != -1) = true := by rw [bne_iff_ne]; omega
  have hz : (u.extract 5 c).size ≤ 9223372036854775807 := by rw [ByteArray.size_extract]; omega
  have HZ := Lib.hid hz; clear hz
  go_enter Try.func6, Try.ntmps6
  go_wp2_with fail
  refine (Try.strings_HasPrefix _ _ _).mono ?_
  rintro e w' ⟨rfl, rfl⟩
  go_wp2_with fail
  refine (Try.strings_IndexByte _ _ _).mono ?_
  rintro e w' ⟨rfl, rfl⟩
  go_wp2_with fail
  refine (Try.strings_HasSuffix _ _ _ HZ.out).mono ?_
  rintro e w' ⟨rfl, rfl⟩
  go_wp2
  go_returns
  exact ⟨rfl, (Below.refl _ _).alloc (Nat.le_refl _) _⟩
theorem comma_at (l : List UInt8) (c : Nat) (h : Lib.hasPrefix l [100, 97, 116, 97, 58] = true) (hc : l[c]? = some 44) : 5 ≤ c := by
  obtain ⟨r, rfl⟩ := List.isPrefixOf_iff_prefix.1 h
  rcases Nat.lt_or_ge c 5 with h1 | h1
  · exfalso
    rw [List.getElem?_append_left (by simpa using h1)] at hc
    have hd : c = 0 ∨ c = 1 ∨ c = 2 ∨ c = 3 ∨ c = 4 := by omega
    rcases hd with rfl | rfl | rfl | rfl | rfl <;> simp at hc
  · exact h1
theorem parse_some (u : ByteArray) (hs : u.size ≤ 9223372036854775807) (h : Lib.hasPrefix u.data.toList [100, 97, 116, 97, 58] = true) (hne : Lib.indexByte u.data.toList 44 ≠ -1) :
    ∃ (M D : ByteArray) (b : Bool), M.size ≤ u.size ∧ ∀ w, Calls Try.prog 6 #[.string u] w fun e w' => e = .returned (.tuple #[.agg #[.string M, .string D, .bool b], .bool true]) ∧ Below w.heap.size w w' := by
  rcases idx 44 u.data.toList with ⟨h1, _, _⟩ | ⟨c, h1, h2, _, h4⟩
  · exact absurd h1 hne
  · have h5 := comma_at _ c h h4
    rw [len_list] at h2
    by_cases hx : Lib.hasSuffix (List.take (c - 5) (List.drop 5 u.data.toList)) [59, 98, 97, 115, 101, 54, 52] = true
    · have hl : 7 ≤ (List.take (c - 5) (List.drop 5 u.data.toList)).length := by
        have := (List.isSuffixOf_iff_suffix.1 hx).length_le
        simpa using this
      have hl2 : (List.take (c - 5) (List.drop 5 u.data.toList)).length ≤ c - 5 := List.length_take_le _ _
      exact ⟨_, _, _, by simp [ByteArray.size_extract]; omega, fun w => parse_b64 u w hs h c h1 (by omega) h2 hx⟩
    · rw [Bool.not_eq_true] at hx
      exact ⟨_, _, _, by simp [ByteArray.size_extract]; omega, fun w => parse_plain u w hs h c h1 h5 h2 hx⟩
end Go.Proofs.Ytejamkblebdheaa.Url
