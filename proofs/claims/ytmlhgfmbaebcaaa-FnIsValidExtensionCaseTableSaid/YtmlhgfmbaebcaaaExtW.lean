/- The walk of the law FnIsValidExtensionCaseTable: for all strings s, x and every byte c it returns true. No condition. -/
import Derived.Test.YtmlhgfmbaebcaaaRows
import Derived.WalkKit
import Derived.ProofKit
import Derived.OpenShut
import Derived.ShutString
import Derived.WalkLawsBesides
import Derived.WalkSpells
import Derived.Handy
import Derived.Outline
import Derived.Lib.Hide
import Derived.Laws.IdiomStrings
namespace Go.Proofs.Ytmlhgfmbaebcaaa.fnIsValidExtensionCaseTable
open Go.ChangeShapes Go.WideShapes Go.ChangeAt Go.RowKit
open Go.ChangeMaps (open_string shut_string)
set_option linter.unusedVariables false

/-! ### THE PLAIN LAW -/
def extL (l : List UInt8) : Bool := decide (2 ≤ l.length) && (l.head? == some 46) && (l.getLast? != some 46)
def extB (s : ByteArray) : Bool := extL s.data.toList
theorem ret_bool {a b : Bool} (h : a = b) : Ending.returned (.bool a) = .returned (.bool b) := by rw [h]
theorem head_at (s : ByteArray) (h : 0 < s.size) : s.data.toList.head? = some s[0] := by
  have h' : 0 < s.data.toList.length := by simpa using h
  rw [List.head?_eq_getElem?, List.getElem?_eq_getElem h']
  rfl
theorem last_at (s : ByteArray) (h : s.size - 1 < s.size) : s.data.toList.getLast? = some s[s.size - 1] := by
  have h' : s.size - 1 < s.data.toList.length := by simpa using h
  have e : s.data.toList.length - 1 = s.size - 1 := by simp
  rw [List.getLast?_eq_getElem?, e, List.getElem?_eq_getElem h']
  rfl
theorem u8_46 (u : UInt8) : (u.toNat : Int) = 46 ↔ u = 46 := by
  rw [← UInt8.toNat_inj]; simp; omega
theorem ext_no (s : ByteArray) (h : s.size < 2) : extB s = false := by
  have : s.data.toList.length < 2 := by simpa using h
  unfold extB extL; simp; omega
theorem ext_no0 (s : ByteArray) (h : 0 < s.size) (h0 : ¬ (s[0].toNat : Int) = 46) : extB s = false := by
  rw [u8_46] at h0
  unfold extB extL; rw [head_at s h]; simp [h0]
theorem ext_yes (s : ByteArray) (h : 2 ≤ s.size) (h0 : (s[0].toNat : Int) = 46) (h1 : s.size - 1 < s.size) : extB s = ((s[s.size - 1].toNat : Int) != 46) := by
  rw [u8_46] at h0
  have hl : 2 ≤ s.data.toList.length := by simpa using h
  unfold extB extL; rw [head_at s (by omega), last_at s h1, h0]
  simp only [hl, decide_true, Bool.true_and, beq_self_eq_true]
  rw [Bool.eq_iff_iff, bne_iff_ne, bne_iff_ne]; simp [u8_46]
theorem ext_joined (s : ByteArray) (u : UInt8) : extB (({ data := #[46] } : ByteArray) ++ s ++ ({ data := #[u] } : ByteArray)) = (u != 46) := by
  unfold extB extL
  rw [Bool.eq_iff_iff]
  simp [ByteArray.data_append]
  rw [show (46 :: (s.data.toList ++ [u])) = (46 :: s.data.toList) ++ [u] from rfl, List.getLast?_concat]
  simp
theorem ext_dot (s : ByteArray) : extB (s ++ ({ data := #[46] } : ByteArray)) = false := by
  unfold extB extL
  simp [ByteArray.data_append]

/-! ### THE CALLEE -/
theorem ext_any (s : ByteArray) (w : World) (hs : s.size ≤ maxLen) :
    Calls Try.prog 12 #[.string s] w fun e w' => e = .returned (.bool (extB s)) ∧ w = w' := by
  unfold maxLen at hs
  by_cases h : 2 ≤ s.size
  · have hy := ext_yes s h
    have hn := ext_no0 s (by omega)
    have HY := Lib.hid hy; have HN := Lib.hid hn; clear hy hn
    go_enter Try.func12, Try.ntmps12
    go_wp2
    · go_ret
      exact ⟨ret_bool (HY.out (by assumption) (by omega)).symm, rfl⟩
    · go_ret
      exact ⟨ret_bool (HN.out (by assumption)).symm, rfl⟩
  · have HN := Lib.hid (ext_no s (by omega))
    go_enter Try.func12, Try.ntmps12
    go_wp2
    go_ret
    exact ⟨ret_bool HN.out.symm, rfl⟩

/-! ### THE WALK -/
set_option maxHeartbeats 1000000 in
theorem rest (a0 a2 : ByteArray) (u : UInt8) (w : World) (b : Bool) (hu1 : ((u.toNat : Int) == 46) = !b) (hu2 : ((u.toNat : Int) != 46) = b)
    (e0 : extB ByteArray.empty = false) (e1 : extB ({ data := #[] } : ByteArray) = false) (e2 : extB ({ data := #[46] } : ByteArray) = false)
    (e3 : extB (a2 ++ ({ data := #[46] } : ByteArray)) = false) (e4 : extB (({ data := #[46] } : ByteArray) ++ a0 ++ ({ data := #[u] } : ByteArray)) = b)
    (M1 : Hid ((({ data := #[46] } : ByteArray) ++ a0 ++ ({ data := #[u] } : ByteArray)).size ≤ maxLen)) (M2 : Hid ((a2 ++ ({ data := #[46] } : ByteArray)).size ≤ maxLen))
    (M3 : Hid (({ data := #[] } : ByteArray).size ≤ maxLen)) (M4 : Hid (({ data := #[46] } : ByteArray).size ≤ maxLen)) (M5 : Hid (a2.size ≤ maxLen))
    (hconv : ∀ w : World, (convert 30 9 (.slice (some ⟨w.heap.size, 0, none⟩) 1 1)).run Try.prog (w.alloc (.cells #[.int .u8 (u.toNat : Int)] 5)) = .ok (.string ⟨#[u]⟩) (w.alloc (.cells #[.int .u8 (u.toNat : Int)] 5)))
    (s0 : a0.size ≤ 524288) (s2 : a2.size ≤ 524288) :
    Calls Try.prog 6 #[.string a0, .int .u8 (u.toNat : Int), .string a2] w fun e w' => e = .returned (.bool true) ∧ Grown w w' := by
  cases b
  all_goals
    by_cases hx : a2.size = 0
    · go_enter Try.func6, Try.ntmps6
      go_wp2_with (first | (go_at_call 12; refine (ext_any _ _ M1.out).mono ?_; rintro e w' ⟨rfl, rfl⟩) | (go_at_call 12; refine (ext_any _ _ M2.out).mono ?_; rintro e w' ⟨rfl, rfl⟩) | (go_at_call 12; refine (ext_any _ _ M3.out).mono ?_; rintro e w' ⟨rfl, rfl⟩) | (go_at_call 12; refine (ext_any _ _ M4.out).mono ?_; rintro e w' ⟨rfl, rfl⟩) | (go_at_call 12; refine (ext_any _ _ M5.out).mono ?_; rintro e w' ⟨rfl, rfl⟩) | (go_at_call 11; go_in))
      all_goals (go_ret; exact ⟨rfl, (Grown.refl _).alloc _ _⟩)
    · have h0 : 0 < a2.size := by omega
      by_cases hc : ((a2[0].toNat : Int) = 46)
      · have hc1 : ((a2[0].toNat : Int) != 46) = false := by rw [bne_eq_false_iff_eq]; exact hc
        by_cases h1 : a2.size = 1
        · have e5 := ext_no a2 (by omega)
          have h2 : ((a2.size : Int) == 1) = true := by rw [beq_iff_eq]; omega
          clear hx hc h1
          go_enter Try.func6, Try.ntmps6
          go_wp2_with (first | (go_at_call 12; refine (ext_any _ _ M1.out).mono ?_; rintro e w' ⟨rfl, rfl⟩) | (go_at_call 12; refine (ext_any _ _ M2.out).mono ?_; rintro e w' ⟨rfl, rfl⟩) | (go_at_call 12; refine (ext_any _ _ M3.out).mono ?_; rintro e w' ⟨rfl, rfl⟩) | (go_at_call 12; refine (ext_any _ _ M4.out).mono ?_; rintro e w' ⟨rfl, rfl⟩) | (go_at_call 12; refine (ext_any _ _ M5.out).mono ?_; rintro e w' ⟨rfl, rfl⟩) | (go_at_call 11; go_in))
          all_goals (go_ret; exact ⟨rfl, (Grown.refl _).alloc _ _⟩)
        · have h2 : ((a2.size : Int) == 1) = false := by rw [beq_eq_false_iff_ne]; omega
          clear hx hc h1
          go_enter Try.func6, Try.ntmps6
          go_wp2_with (first | (go_at_call 12; refine (ext_any _ _ M1.out).mono ?_; rintro e w' ⟨rfl, rfl⟩) | (go_at_call 12; refine (ext_any _ _ M2.out).mono ?_; rintro e w' ⟨rfl, rfl⟩) | (go_at_call 12; refine (ext_any _ _ M3.out).mono ?_; rintro e w' ⟨rfl, rfl⟩) | (go_at_call 12; refine (ext_any _ _ M4.out).mono ?_; rintro e w' ⟨rfl, rfl⟩) | (go_at_call 12; refine (ext_any _ _ M5.out).mono ?_; rintro e w' ⟨rfl, rfl⟩) | (go_at_call 11; go_in))
          all_goals (go_ret; exact ⟨rfl, (Grown.refl _).alloc _ _⟩)
      · have e5 := ext_no0 a2 h0 hc
        have hc1 : ((a2[0].toNat : Int) != 46) = true := by rw [bne_iff_ne]; exact hc
        by_cases h1 : a2.size = 1
        · have h2 : ((a2.size : Int) == 1) = true := by rw [beq_iff_eq]; omega
          clear hx hc h1
          go_enter Try.func6, Try.ntmps6
          go_wp2_with (first | (go_at_call 12; refine (ext_any _ _ M1.out).mono ?_; rintro e w' ⟨rfl, rfl⟩) | (go_at_call 12; refine (ext_any _ _ M2.out).mono ?_; rintro e w' ⟨rfl, rfl⟩) | (go_at_call 12; refine (ext_any _ _ M3.out).mono ?_; rintro e w' ⟨rfl, rfl⟩) | (go_at_call 12; refine (ext_any _ _ M4.out).mono ?_; rintro e w' ⟨rfl, rfl⟩) | (go_at_call 12; refine (ext_any _ _ M5.out).mono ?_; rintro e w' ⟨rfl, rfl⟩) | (go_at_call 11; go_in))
          all_goals (go_ret; exact ⟨rfl, (Grown.refl _).alloc _ _⟩)
        · have h2 : ((a2.size : Int) == 1) = false := by rw [beq_eq_false_iff_ne]; omega
          clear hx hc h1
          go_enter Try.func6, Try.ntmps6
          go_wp2_with (first | (go_at_call 12; refine (ext_any _ _ M1.out).mono ?_; rintro e w' ⟨rfl, rfl⟩) | (go_at_call 12; refine (ext_any _ _ M2.out).mono ?_; rintro e w' ⟨rfl, rfl⟩) | (go_at_call 12; refine (ext_any _ _ M3.out).mono ?_; rintro e w' ⟨rfl, rfl⟩) | (go_at_call 12; refine (ext_any _ _ M4.out).mono ?_; rintro e w' ⟨rfl, rfl⟩) | (go_at_call 12; refine (ext_any _ _ M5.out).mono ?_; rintro e w' ⟨rfl, rfl⟩) | (go_at_call 11; go_in))
          all_goals (go_ret; exact ⟨rfl, (Grown.refl _).alloc _ _⟩)

theorem walk (a0 : ByteArray) (a1 : Int) (a2 : ByteArray) (w0 : a0.size ≤ maxLen) (w1 : (Lit.int .u8 a1).wf = true) (w2 : a2.size ≤ maxLen) (w : World) :
    Calls Try.prog 6 #[.string a0, .int .u8 a1, .string a2] w fun e w' => e = .returned (.bool true) ∧ Grown w w' := by
  have b1 := bounds_u8 w1
  obtain ⟨u, rfl⟩ : ∃ u : UInt8, a1 = (u.toNat : Int) := ⟨UInt8.ofNat a1.toNat, by simp [UInt8.toNat_ofNat']; omega⟩
  have b2 : u.toNat < 256 := u.toNat_lt
  have hconv : ∀ w : World, (convert 30 9 (.slice (some ⟨w.heap.size, 0, none⟩) 1 1)).run Try.prog (w.alloc (.cells #[.int .u8 (u.toNat : Int)] 5)) = .ok (.string ⟨#[u]⟩) (w.alloc (.cells #[.int .u8 (u.toNat : Int)] 5)) := fun w =>
    run_convert_bytes_back (w.alloc (.cells #[.int .u8 (u.toNat : Int)] 5)) 30 9 5 ⟨w.heap.size, 0, none⟩ 1 [u] Try.underlying30 Try.underlying5 Try.underlying9 (fun j hj => by
      match j, hj with
      | 0, _ => simp [Addr.add])
  have e0 : extB ByteArray.empty = false := by decide
  have e1 : extB ({ data := #[] } : ByteArray) = false := by decide
  have e2 : extB ({ data := #[46] } : ByteArray) = false := by decide
  have e3 := ext_dot a2
  have e4 := ext_joined a0 u
  have main : a0.size ≤ 524288 → a2.size ≤ 524288 → Calls Try.prog 6 #[.string a0, .int .u8 (u.toNat : Int), .string a2] w fun e w' => e = .returned (.bool true) ∧ Grown w w' := by
    intro s0 s2
    have m1 : (({ data := #[46] } : ByteArray) ++ a0 ++ ({ data := #[u] } : ByteArray)).size ≤ maxLen := by
      rw [ByteArray.size_append, ByteArray.size_append]; show 1 + a0.size + 1 ≤ _; unfold maxLen; omega
    have m2 : (a2 ++ ({ data := #[46] } : ByteArray)).size ≤ maxLen := by
      rw [ByteArray.size_append]; show a2.size + 1 ≤ _; unfold maxLen; omega
    have m3 : ({ data := #[] } : ByteArray).size ≤ maxLen := by decide
    have m4 : ({ data := #[46] } : ByteArray).size ≤ maxLen := by decide
    have M1 := Lib.hid m1; have M2 := Lib.hid m2; have M3 := Lib.hid m3; have M4 := Lib.hid m4; have M5 := Lib.hid w2
    clear m1 m2 m3 m4 w2 w0 w1
    by_cases hu : u = 46
    · have hu1 : ((u.toNat : Int) == 46) = true := by rw [beq_iff_eq, u8_46]; exact hu
      have hu2 : ((u.toNat : Int) != 46) = false := by rw [bne_eq_false_iff_eq, u8_46]; exact hu
      have hu3 : (u != 46) = false := by simpa using hu
      rw [hu3] at e4
      clear hu hu3
      exact rest a0 a2 u w false hu1 hu2 e0 e1 e2 e3 e4 M1 M2 M3 M4 M5 hconv s0 s2
    · have hu1 : ((u.toNat : Int) == 46) = false := by rw [beq_eq_false_iff_ne]; rw [ne_eq, u8_46]; exact hu
      have hu2 : ((u.toNat : Int) != 46) = true := by rw [bne_iff_ne, ne_eq, u8_46]; exact hu
      have hu3 : (u != 46) = true := by simpa using hu
      rw [hu3] at e4
      clear hu hu3
      exact rest a0 a2 u w true hu1 hu2 e0 e1 e2 e3 e4 M1 M2 M3 M4 M5 hconv s0 s2
  by_cases s0 : a0.size ≤ 524288
  · by_cases s2 : a2.size ≤ 524288
    · exact main s0 s2
    · clear main
      go_enter Try.func6, Try.ntmps6
      go_wp2_with (go_in)
      all_goals (go_ret; exact ⟨rfl, Grown.refl _⟩)
  · clear main
    go_enter Try.func6, Try.ntmps6
    go_wp2_with (go_in)
    all_goals (go_ret; exact ⟨rfl, Grown.refl _⟩)
end Go.Proofs.Ytmlhgfmbaebcaaa.fnIsValidExtensionCaseTable
