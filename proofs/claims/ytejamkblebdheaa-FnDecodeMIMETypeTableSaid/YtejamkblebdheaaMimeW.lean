/- The walk of the law FnDecodeMIMETypeTable: for every string u it returns true. No condition. -/
import Derived.Test.YtejamkblebdheaaUrl
namespace Go.Proofs.Ytejamkblebdheaa.fnDecodeMIMETypeTable
open Go.ChangeShapes Go.WideShapes Go.ChangeAt Go.RowKit Go.Proofs.Ytejamkblebdheaa.Base Go.Proofs.Ytejamkblebdheaa.Url
set_option linter.unusedVariables false

theorem walk_no (u : ByteArray) (w : World) (hs : u.size ≤ 1048576) (h : Lib.hasPrefix u.data.toList [100, 97, 116, 97, 58] = false ∨ Lib.indexByte u.data.toList 44 = -1) :
    Calls Try.prog 3 #[.string u] w fun e w' => e = .returned (.bool true) ∧ Below w.heap.size w w' := by
  have HP := Lib.hid (parse_no u · h); clear h
  have m0 : mimeN [] = 0 := by decide
  have m1 : ({ data := #[] } : ByteArray).size ≤ 9223372036854775807 := by decide
  have M1 := Lib.hid m1; clear m1
  go_enter Try.func3, Try.ntmps3
  go_wp2_with (go_at_call 5; go_in)
  go_wp2_with fail
  refine (HP.out _).mono ?_
  rintro e w1 ⟨rfl, hb1⟩
  go_wp2_with fail
  refine (mime_any _ _ _ _ M1.out).mono ?_
  rintro e w2 ⟨rfl, hb2⟩
  go_wp2
  go_ret
  exact ⟨rfl, below_join (hb1.alloc hb1.size _) (by have := hb1.size; simp; omega) hb2⟩

theorem walk_yes (u : ByteArray) (w : World) (hs : u.size ≤ 1048576) (M D : ByteArray) (b : Bool) (hM : M.size ≤ u.size)
    (hp : Hid (∀ w, Calls Try.prog 6 #[.string u] w fun e w' => e = .returned (.tuple #[.agg #[.string M, .string D, .bool b], .bool true]) ∧ Below w.heap.size w w'))
    (q1 q2 q3 : Bool)
    (hq1 : (cutAt 59 M.data.toList == [116, 101, 120, 116, 47, 99, 115, 115]) = q1)
    (hq2 : (cutAt 59 M.data.toList == [116, 101, 120, 116, 47, 106, 97, 118, 97, 115, 99, 114, 105, 112, 116]) = q2)
    (hq3 : (cutAt 59 M.data.toList == [97, 112, 112, 108, 105, 99, 97, 116, 105, 111, 110, 47, 106, 115, 111, 110]) = q3)
    (hm : mimeN M.data.toList = if q1 then 1 else if q2 then 2 else if q3 then 3 else 0) :
    Calls Try.prog 3 #[.string u] w fun e w' => e = .returned (.bool true) ∧ Below w.heap.size w w' := by
  have M1 := Lib.hid (show M.size ≤ 9223372036854775807 by omega)
  cases q1 <;> cases q2 <;> cases q3
  all_goals
    simp only [Bool.false_eq_true, if_true, if_false] at hm
    go_enter Try.func3, Try.ntmps3
    go_wp2_with (go_at_call 5; go_in)
    go_wp2_with fail
    refine (hp.out _).mono ?_
    rintro e w1 ⟨rfl, hb1⟩
    go_wp2_with fail
    refine (mime_any _ _ _ _ M1.out).mono ?_
    rintro e w2 ⟨rfl, hb2⟩
    have c0 : w2.cell? ⟨w1.heap.size, 0, none⟩ = some (.string M) := by rw [bcell hb2 (by simp)]; simp
    have c1 : w2.cell? ⟨w1.heap.size, 1, none⟩ = some (.string D) := by rw [bcell hb2 (by simp)]; simp
    have c2 : w2.cell? ⟨w1.heap.size, 2, none⟩ = some (.bool b) := by rw [bcell hb2 (by simp)]; simp
    have hz : w1.heap.size + 1 ≤ w2.heap.size := by have := hb2.size; simpa using this
    go_wp2_with fail
    refine (fields_any _ _ _ _).mono ?_
    rintro e w3 ⟨rfl, hb3⟩
    clear c0 c1 c2
    go_wp2_with (go_at_call 9; refine (tp_any _ _ _ M1.out (by decide) (by decide)).mono ?_; rintro e w' ⟨rfl, n, rfl⟩)
    go_ret
    have hB : Below w.heap.size w w3 := below_join (below_join (hb1.alloc hb1.size _) (by have := hb1.size; simp; omega) hb2) (by have := hb1.size; omega) hb3
    exact ⟨rfl, by first | exact hB | exact below_draws hB _ | exact below_draws (below_draws hB _) _⟩

theorem walk (a0 : ByteArray) (w : World) (w0 : a0.size ≤ maxLen) :
    Calls Try.prog 3 #[.string a0] w fun e w' => e = .returned (.bool true) ∧ Below w.heap.size w w' := by
  unfold maxLen at w0
  by_cases hs : a0.size ≤ 1048576
  · by_cases hp : Lib.hasPrefix a0.data.toList [100, 97, 116, 97, 58] = true
    · by_cases hi : Lib.indexByte a0.data.toList 44 = -1
      · exact walk_no a0 w hs (.inr hi)
      · obtain ⟨M, D, b, hM, hc⟩ := parse_some a0 (by omega) hp hi
        exact walk_yes a0 w hs M D b hM (Lib.hid hc) _ _ _ rfl rfl rfl rfl
    · exact walk_no a0 w hs (.inl (by simpa using hp))
  · go_enter Try.func3, Try.ntmps3
    go_wp2_with (go_at_call 5; go_in)
    go_ret
    exact ⟨rfl, Below.refl _ _⟩
end Go.Proofs.Ytejamkblebdheaa.fnDecodeMIMETypeTable
