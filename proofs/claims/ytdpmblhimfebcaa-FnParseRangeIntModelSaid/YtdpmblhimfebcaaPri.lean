/- parseRangeInt by its contract: it returns the number that a text of digits spells, if that is at most the bound; else 0 and false. Conditions: the bound is at most 922337203685477579, the text's length fits an int. -/
import Derived.Test.YtdpmblhimfebcaaRows
import Derived.Test.YtdpmblhimfebcaaBase
import Derived.WalkKit
import Derived.ProofKit
import Derived.OpenShut
import Derived.ShutString
import Derived.WalkLawsBesides
import Derived.WalkSpells
import Derived.Handy
import Derived.Outline
import Derived.Laws.RangeString
import Derived.Laws.RangeAny
namespace Go.Proofs.Ytdpmblhimfebcaa.Pri
open Go.ChangeShapes Go.WideShapes Go.ChangeAt Go.RowKit Go.Proofs.Ytdpmblhimfebcaa.Base
set_option linter.unusedVariables false

/-! ### PLAIN -/
def val (l : List UInt8) : Nat := l.foldl (fun v c => v * 10 + (c.toNat - 48)) 0
theorem val_snoc (l : List UInt8) (c : UInt8) : val (l ++ [c]) = val l * 10 + (c.toNat - 48) := by unfold val; rw [List.foldl_append]; rfl
def dig (c : UInt8) : Prop := 48 ≤ c.toNat ∧ c.toNat ≤ 57
def Digs (l : List UInt8) : Prop := ∀ c ∈ l, dig c
theorem take_snoc (s : ByteArray) (k : Nat) (h : k < s.size) : s.data.toList.take (k + 1) = s.data.toList.take k ++ [s[k]] := by
  rw [List.take_succ_eq_append_getElem (by simpa using h)]; rfl
theorem foldl_le (l : List UInt8) : ∀ a b : Nat, a ≤ b → a ≤ l.foldl (fun v c => v * 10 + (c.toNat - 48)) b := by
  induction l with
  | nil => intro a b h; exact h
  | cons c l ih => intro a b h; exact ih a _ (by show a ≤ b * 10 + (c.toNat - 48); omega)
theorem val_take_le (l : List UInt8) (k : Nat) : val (l.take k) ≤ val l := by
  have e : val l = (l.drop k).foldl (fun v c => v * 10 + (c.toNat - 48)) (val (l.take k)) := by
    unfold val; rw [← List.foldl_append, List.take_append_drop]
  rw [e]; exact foldl_le _ _ _ (Nat.le_refl _)
theorem ret2 {a a' : Int} {b b' : Bool} (h : a = a') (h2 : b = b') : Ending.returned (.tuple #[.int .i64 a, .bool b]) = .returned (.tuple #[.int .i64 a', .bool b']) := by rw [h, h2]
/-- What parseRangeInt answers. -/
def okP (s : ByteArray) (m : Int) : Prop := s.size ≠ 0 ∧ Digs s.data.toList ∧ (val s.data.toList : Int) ≤ m
def Ans (s : ByteArray) (m : Int) (w : World) (e : Ending) (w' : World) : Prop :=
  ((okP s m ∧ e = .returned (.tuple #[.int .i64 (val s.data.toList), .bool true])) ∨ (¬ okP s m ∧ e = .returned (.tuple #[.int .i64 0, .bool false]))) ∧ Below w.heap.size w w'
theorem iter_below (w : World) (s : ByteArray) (p : Nat) : Below w.heap.size w (w.iter s p) := (Below.refl _ _).alloc (Nat.le_refl _) _

/-! ### THE WALK -/
theorem pri_empty (m : Int) (w : World) : Calls Try.prog 16 #[.string { data := #[] }, .int .i64 m] w (Ans { data := #[] } m w) := by
  have H : Hid (Ans { data := #[] } m w (.returned (.tuple #[.int .i64 0, .bool false])) w) := Lib.hid ⟨.inr ⟨fun h => h.1 rfl, rfl⟩, Below.refl _ _⟩
  go_enter Try.func16, Try.ntmps16
  go_wp2
  go_ret2
  exact H.out
theorem digit_of (s : ByteArray) (k : Nat) (h : k < s.size) (h1 : ¬ ((Utf8.decode s k).1 : Int) < 48) (h2 : ¬ 57 < ((Utf8.decode s k).1 : Int)) : dig s[k] ∧ Utf8.decode s k = (s[k].toNat, 1) := by
  by_cases ha : (s[k]'h).toNat < 128
  · have e := decode_ascii s k h ha
    rw [e] at h1 h2
    exact ⟨⟨by simp at h1; omega, by simp at h2; omega⟩, e⟩
  · have := (decode_high s k h (by omega)).1
    omega
theorem not_digit_of (s : ByteArray) (k : Nat) (h : k < s.size) (h1 : ((Utf8.decode s k).1 : Int) < 48 ∨ 57 < ((Utf8.decode s k).1 : Int)) : ¬ dig s[k] := by
  rintro ⟨h2, h3⟩
  have e := decode_ascii s k h (by omega)
  rw [e] at h1; simp at h1; omega
set_option maxHeartbeats 400000 in
theorem pri_any (s : ByteArray) (m : Int) (w : World) (hs : s.size ≤ 9223372036854775807) (hm : m ≤ 922337203685477579) (hm0 : -9223372036854775808 ≤ m) : Calls Try.prog 16 #[.string s, .int .i64 m] w (Ans s m w) := by
  by_cases h0 : s.size = 0
  · have : s = { data := #[] } := by apply ext_list; apply List.eq_nil_of_length_eq_zero; rw [len_list]; exact h0
    subst this; exact pri_empty m w
  have hne : (s.toList == []) = false ∧ s.toList.isEmpty = false := by
    have : s.toList ≠ [] := by rw [Lib.toList_data]; intro h2; have := congrArg List.length h2; rw [len_list, List.length_nil] at this; omega
    exact ⟨by rw [beq_eq_false_iff_ne]; exact this, by simpa using this⟩
  obtain ⟨hn1, hn2⟩ := hne
  have NO : Hid (∀ p, ¬ okP s m → Ans s m w (.returned (.tuple #[.int .i64 0, .bool false])) (w.iter s p)) := Lib.hid (fun p h => ⟨.inr ⟨h, rfl⟩, iter_below w s p⟩)
  have YES : Hid (∀ p, okP s m → Ans s m w (.returned (.tuple #[.int .i64 (val s.data.toList), .bool true])) (w.iter s p)) := Lib.hid (fun p h => ⟨.inl ⟨h, rfl⟩, iter_below w s p⟩)
  generalize hA : Ans s m w = A at NO YES ⊢
  have HA := Lib.hid hA; clear hA
  have H0 := Lib.hid h0; clear h0
  go_enter Try.func16, Try.ntmps16
  go_wp2
  go_loopw [6] (fun n wr => ∃ k v : Nat, k ≤ s.size ∧ v ≤ 922337203685477579 ∧ Hid (v = val (s.data.toList.take k)) ∧ Hid (Digs (s.data.toList.take k)) ∧ Hid (k = 0 ∨ (v : Int) ≤ m) ∧ n = .int .i64 v ∧ wr = w.iter s k) (fun _ wr => s.size - wr.iterPos w.heap.size)
  case atStart => exact ⟨0, 0, by omega, by omega, Lib.hid rfl, Lib.hid (fun c h => by simp at h), Lib.hid (.inl rfl), rfl, rfl⟩
  case round =>
    obtain ⟨k, v, hk, hv, HV, HD, HM, rfl, rfl⟩ := hrel
    by_cases hlt : k < s.size
    · by_cases hd : dig s[k]
      · have hd1 := hd.1
        have hd2 := hd.2
        have e := decode_ascii s k hlt (by omega)
        have hnx : ∀ ty, (Instr.next (.pointer (some ⟨w.heap.size, 0, none⟩)) true ty).run Try.prog (w.iter s k) = _ := fun ty => run_next_ascii w s k ty hlt (by omega)
        have HV2 : Hid (v * 10 + (s[k].toNat - 48) = val (s.data.toList.take (k + 1))) := Lib.hid (by rw [take_snoc s k hlt, val_snoc, ← HV.out])
        have HD2 : Hid (Digs (s.data.toList.take (k + 1))) := Lib.hid (by
          rw [take_snoc s k hlt]; intro c hc
          simp only [List.mem_append, List.mem_singleton] at hc
          rcases hc with hc | rfl
          · exact HD.out c hc
          · exact hd)
        clear e hd
        by_cases hgt : m < (v : Int) * 10 + ((s[k].toNat : Int) - 48)
        · have H1 := Lib.hid (show ¬ okP s m by
            rintro ⟨_, _, h3⟩
            have := val_take_le s.data.toList (k + 1)
            rw [← HV2.out] at this; omega)
          go_wp2
          (try go_ret2)
          exact NO.out _ H1.out
        · go_wp2
          go_roundw
          case rel => exact ⟨k + 1, v * 10 + (s[k].toNat - 48), by omega, by omega, HV2, HD2, Lib.hid (.inr (by omega)), by go_num, rfl⟩
          case measure => simp; omega
      · have H1 := Lib.hid (show ¬ okP s m by
          rintro ⟨_, h2, _⟩
          exact hd (h2 _ (List.mem_of_getElem? (get_list? s k hlt))))
        have hnx : ∀ ty, (Instr.next (.pointer (some ⟨w.heap.size, 0, none⟩)) true ty).run Try.prog (w.iter s k) = _ := fun ty => run_next_any w s k ty hlt
        have HB : Hid (((Utf8.decode s k).1 : Int) < 48 ∨ 57 < ((Utf8.decode s k).1 : Int)) := Lib.hid (by
          by_cases c1 : ((Utf8.decode s k).1 : Int) < 48
          · exact .inl c1
          · by_cases c2 : 57 < ((Utf8.decode s k).1 : Int)
            · exact .inr c2
            · exact absurd (digit_of s k hlt c1 c2).1 hd)
        clear hd
        generalize Utf8.decode s k = dc at HB hnx
        obtain ⟨r, wd⟩ := dc
        by_cases c1 : (r : Int) < 48
        · clear HB
          go_wp2
          (try go_ret2)
          exact NO.out _ H1.out
        · have c2 : 57 < (r : Int) := by rcases HB.out with h | h; exact absurd h c1; exact h
          clear HB
          go_wp2
          (try go_ret2)
          exact NO.out _ H1.out
    · have hnx : ∀ ty, (Instr.next (.pointer (some ⟨w.heap.size, 0, none⟩)) true ty).run Try.prog (w.iter s k) = _ := fun ty => run_next_end w s k ty hlt
      have hke : s.data.toList.take k = s.data.toList := List.take_of_length_le (by rw [len_list]; omega)
      have H1 := Lib.hid (show okP s m by
        refine ⟨H0.out, by have := HD.out; rw [hke] at this; exact this, ?_⟩
        have h1 := HV.out
        rw [hke] at h1
        rcases HM.out with h | h
        · have := H0.out; omega
        · rw [← h1]; exact h)
      have H2 := Lib.hid (show (v : Int) = val s.data.toList by have := HV.out; rw [hke] at this; rw [this])
      clear hke
      go_wp2
      (try go_ret2)
      have H3 := YES.out k H1.out
      rw [← H2.out] at H3
      exact H3
end Go.Proofs.Ytdpmblhimfebcaa.Pri
