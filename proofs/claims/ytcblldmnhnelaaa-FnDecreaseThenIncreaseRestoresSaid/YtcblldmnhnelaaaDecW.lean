/- The walk of the law FnDecreaseThenIncreaseRestores: for every int it returns true. No condition. -/
import Derived.Test.YtcblldmnhnelaaaLogs
namespace Go.Proofs.Ytcblldmnhnelaaa.fnDecreaseThenIncreaseRestores
open Go.ChangeShapes Go.WideShapes Go.ChangeAt Go.RowKit Go.Deep Go.Proofs.Ytcblldmnhnelaaa.Base Go.Proofs.Ytcblldmnhnelaaa.Logs
set_option linter.unusedVariables false
def what : ByteArray := { data := #[114, 111, 117, 110, 100, 116, 114, 105, 112] }
set_option maxHeartbeats 600000 in
theorem in_range (n : Nat) (w : World) (h1 : 1 ≤ n) (h2 : n ≤ 4096) :
    Calls Try.prog 4 #[.int .i64 n] w fun e w' => e = .returned (.bool true) ∧ Below w.heap.size w w' := by
  have NR := Lib.hid (new_row what w)
  have hsp := sp_size
  have HS := Lib.hid hsp; clear hsp
  go_enter Try.func4, Try.ntmps4
  go_wp2_with (go_at_call 10; refine (new_any _ _).mono ?_; rintro e w' ⟨rfl, rfl⟩)
  go_loopw [4] (fun i wr => ∃ k : Nat, k ≤ n ∧ i = .int .i64 k ∧ wr.rowIs w.heap.size 43 3 (dl what (sp (2 * k)) (.slice none 0 0)) ∧ Below w.heap.size w wr) (fun i _ => n - (intOf i).toNat)
  case atStart => exact ⟨0, by omega, rfl, NR.out, (Below.refl _ _).alloc (Nat.le_refl _) _⟩
  case round =>
    obtain ⟨k, hk, rfl, HR, hbel⟩ := hrel
    by_cases hlt : k < n
    · have I := Lib.hid (inc_any w.heap.size _ _ _ wr HR (by rw [HS.out]; omega))
      have HR2 := (HR.set 1 (.string (sp (2 * k) ++ ({ data := #[32, 32] } : ByteArray)))).congr (fun i _ => dl_set _ _ _ _ i)
      rw [sp_more] at HR2 I
      have R2 := Lib.hid HR2
      have B2 := Lib.hid (hbel.setCell (p := ⟨w.heap.size, 1, none⟩) (Nat.le_refl _) (.string (sp (2 * k + 2))))
      clear HR HR2 hbel
      go_wp2_with (go_at_call 12; refine I.out.mono ?_; rintro e w' ⟨rfl, rfl⟩)
      go_roundw
      case rel => exact ⟨k + 1, by omega, by go_num, R2.out, B2.out⟩
      case measure => simp [intOf]; omega
    · obtain rfl : k = n := by omega
      obtain ⟨m, hm⟩ : ∃ m, 2 * k = m + 2 := ⟨2 * k - 2, by omega⟩
      rw [hm] at HR
      have G1 := Lib.hid (indent_any w.heap.size _ _ _ wr HR)
      have D := dec_any w.heap.size _ _ _ wr HR (by rw [HS.out]; omega) (by rw [HS.out]; omega)
      have HR2 := (HR.set 1 (.string ((sp (m + 2)).extract 2 (sp (m + 2)).size))).congr (fun i _ => dl_set _ _ _ _ i)
      have B2 := hbel.setCell (p := ⟨w.heap.size, 1, none⟩) (Nat.le_refl _) (.string ((sp (m + 2)).extract 2 (sp (m + 2)).size))
      rw [HS.out, sp_less m (m + 2) rfl] at HR2 D B2
      have D1 := Lib.hid D; clear D
      generalize wr.setCell ⟨w.heap.size, 1, none⟩ (.string (sp m)) = w2 at HR2 D1 B2
      have G2 := Lib.hid (indent_any w.heap.size _ _ _ w2 HR2)
      have S := Lib.hid (spaces_any (sp m) w2 (by rw [HS.out]; omega) (sp_spaces m))
      have I := inc_any w.heap.size _ _ _ w2 HR2 (by rw [HS.out]; omega)
      have HR3 := (HR2.set 1 (.string (sp m ++ ({ data := #[32, 32] } : ByteArray)))).congr (fun i _ => dl_set _ _ _ _ i)
      have B3 := B2.setCell (p := ⟨w.heap.size, 1, none⟩) (Nat.le_refl _) (.string (sp m ++ ({ data := #[32, 32] } : ByteArray)))
      rw [sp_more] at HR3 I B3
      have I1 := Lib.hid I; clear I
      generalize w2.setCell ⟨w.heap.size, 1, none⟩ (.string (sp (m + 2))) = w3 at HR3 I1 B3
      have G3 := Lib.hid (indent_any w.heap.size _ _ _ w3 HR3)
      have N3 := Lib.hid (notes_any w.heap.size _ _ _ _ _ w3 HR3)
      have BB := Lib.hid B3
      have hsz : (sp m).size = m := HS.out m
      have q : ((sp (m + 2)).toList == (sp (m + 2)).toList) = true := by simp
      have e1 : ((m : Int) != 2 * ((k : Int) - 1)) = false := by rw [bne_eq_false_iff_eq]; omega
      have z0 : ((0 : Int) == 0) = true := rfl
      clear HR HR2 HR3 B2 B3 hbel
      have HM := Lib.hid hm; clear hm
      go_wp2_with fail
      refine G1.out.mono ?_
      rintro e w' ⟨rfl, rfl⟩
      go_wp2_with fail
      refine D1.out.mono ?_
      rintro e w' ⟨rfl, rfl⟩
      go_wp2_with fail
      refine G2.out.mono ?_
      rintro e w' ⟨rfl, rfl⟩
      go_wp2_with fail
      refine S.out.mono ?_
      rintro e w' ⟨rfl, rfl⟩
      go_wp2_with fail
      refine I1.out.mono ?_
      rintro e w' ⟨rfl, rfl⟩
      go_wp2_with fail
      refine G3.out.mono ?_
      rintro e w' ⟨rfl, rfl⟩
      go_wp2_with fail
      refine N3.out.mono ?_
      rintro e w' ⟨rfl, rfl⟩
      go_wp2
      go_ret
      exact ⟨rfl, BB.out⟩
theorem walk (a0 : Int) (w : World) (w0 : (Lit.int .i64 a0).wf = true) :
    Calls Try.prog 4 #[.int .i64 a0] w fun e w' => e = .returned (.bool true) ∧ Below w.heap.size w w' := by
  by_cases h1 : a0 < 1
  · clear w0
    go_enter Try.func4, Try.ntmps4
    go_wp2
    all_goals (go_ret; exact ⟨rfl, Below.refl _ _⟩)
  · by_cases h2 : 4096 < a0
    · clear w0
      go_enter Try.func4, Try.ntmps4
      go_wp2
      all_goals (go_ret; exact ⟨rfl, Below.refl _ _⟩)
    · obtain ⟨n, rfl⟩ := Int.eq_ofNat_of_zero_le (show 0 ≤ a0 by omega)
      exact in_range n w (by omega) (by omega)
end Go.Proofs.Ytcblldmnhnelaaa.fnDecreaseThenIncreaseRestores
