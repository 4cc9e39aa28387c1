/- The walk of the law FnQuoteOrNullASCIIModel under a told reading of fmt: it returns true for every string. No condition. -/
import Derived.Test.YtdejboelpcnigaaFmtQc
namespace Go.Proofs.YtdejboelpcnigaaFmt.fnQuoteOrNullASCIIModel
open Go.RowKit Go.Extern Go.Extern.Stop Go.Stop Go.Deep Go.Proofs.YtdejboelpcnigaaFmt.Base Go.Proofs.YtdejboelpcnigaaFmt.Sls Go.Proofs.YtdejboelpcnigaaFmt.Qa Go.Proofs.YtdejboelpcnigaaFmt.Qb Go.Proofs.YtdejboelpcnigaaFmt.Qc
set_option linter.unusedVariables false
set_option maxHeartbeats 800000 in
theorem model0 (s : ByteArray) (w : World) (hn : s.size = 0) :
    Calls Tryf.prog 7 #[.string s] w fun e w' => e = .returned (.string ⟨#[110, 117, 108, 108]⟩) ∧ w' = w := by
  have hne : s.toList.isEmpty = true := by rw [Lib.toList_data]; cases h : s.data.toList with
    | nil => rfl
    | cons a l => have := len_list s; rw [h] at this; simp at this; omega
  go_enter Tryf.func7, Tryf.ntmps7
  go_wp2
  go_ret
  exact ⟨rfl, rfl⟩
/-- The two calls give one string. -/
theorem pair (F : Interp) (s : ByteArray) (w : World) (hF : F.told.answers w.tape) (hs : s.size ≤ 1048576) (hA : ∀ c ∈ s.data.toList, c.toNat < 128) :
    ∃ S : ByteArray, (Calls Tryf.prog 6 #[.string s] w fun e w' => e = .returned (.string S) ∧ Below w.heap.size w w') ∧
      ∀ w', Calls Tryf.prog 7 #[.string s] w' fun e w'' => e = .returned (.string S) ∧ Below w'.heap.size w' w'' := by
  by_cases hn : 0 < s.size
  · refine ⟨⟨(run s.data.toList s.size ++ [34]).toArray⟩, ?_, fun w' => model7 s w' hs hn⟩
    have := quote6 F.told s w hF (by unfold maxLen; omega) hn
    rw [told_ascii F s hs hA] at this
    exact this
  · refine ⟨⟨#[110, 117, 108, 108]⟩, (empty6 s w (by omega)).mono ?_, fun w' => (model0 s w' (by omega)).mono ?_⟩
    · rintro e w' ⟨h1, rfl⟩; exact ⟨h1, Below.refl _ _⟩
    · rintro e w' ⟨h1, rfl⟩; exact ⟨h1, Below.refl _ _⟩
set_option maxHeartbeats 1600000 in
theorem walk (F : Interp) (s : ByteArray) (w : World) (hF : F.told.answers w.tape) (hm : s.size ≤ maxLen) :
    Calls Tryf.prog 3 #[.string s] w fun e w' => e = .returned (.bool true) ∧ Below w.heap.size w w' := by
  have C4 := Lib.hid (bytes4 s w hm)
  have HF := Lib.hid hF
  by_cases hs : s.size ≤ 1048576
  · have C5 := Lib.hid (one5 s w hm hs)
    clear hF
    go_enter Tryf.func3, Tryf.ntmps3
    go_wp2_with fail
    refine C4.out.mono ?_
    rintro e w' ⟨rfl, rfl⟩
    have hd : decide (s.size ≤ 1048576) = true := by simp [hs]
    rw [hd]
    go_wp2_with fail
    refine C5.out.mono ?_
    rintro e w' ⟨rfl, rfl⟩
    clear C4 C5 hd
    go_wp2
    go_loop [3] (fun i => ∃ k : Nat, k ≤ s.size ∧ i = .int .i64 k ∧ Hid (∀ c ∈ s.data.toList.take k, c.toNat < 128)) (fun i => s.size - (intOf i).toNat)
    case atStart => exact ⟨0, by omega, rfl, Lib.hid (by simp)⟩
    case round =>
      obtain ⟨k, hk, rfl, HA⟩ := hrel
      by_cases hlt : k < s.size
      · have hlt' : (k : Int) < (s.size : Int) := by omega
        by_cases hc : 128 ≤ (s[k]).toNat
        · have hc' : (128 : Int) ≤ ((s[k]).toNat : Int) := by omega
          go_wp2
          go_ret
          exact ⟨rfl, Below.refl _ _⟩
        · have hc' : ¬ (128 : Int) ≤ ((s[k]).toNat : Int) := by omega
          go_wp2
          go_round
          case rel => exact ⟨k + 1, by omega, by go_num, Lib.hid (by
            rw [List.take_succ_eq_append_getElem (by rw [len_list]; exact hlt)]
            intro c hc0
            rw [List.mem_append, List.mem_singleton] at hc0
            rcases hc0 with h | rfl
            · exact HA.out c h
            · rw [get_list s k hlt]; omega)⟩
          case measure => simp [intOf]; omega
      · have hkn : k = s.size := by omega
        subst hkn
        have hA : ∀ c ∈ s.data.toList, c.toNat < 128 := by
          have := HA.out
          rw [List.take_of_length_le (by rw [len_list]; omega)] at this; exact this
        obtain ⟨S, h6, h7⟩ := pair F s _ HF.out hs hA
        have C6 := Lib.hid h6; have C7 := Lib.hid h7
        clear h6 h7 hA HA HF
        go_wp2_with fail
        refine C6.out.mono ?_
        rintro e w1 ⟨rfl, b1⟩
        have B1 := Lib.hid b1
        have z1 := b1.size
        have C7' := Lib.hid (C7.out w1)
        clear b1 C6 C7
        go_wp2_with fail
        refine C7'.out.mono ?_
        rintro e w2 ⟨rfl, b2⟩
        have B2 := Lib.hid (below_join B1.out z1 b2)
        clear b2 C7' B1
        go_wp2
        go_ret
        exact ⟨rfl, B2.out⟩
  · clear hF
    go_enter Tryf.func3, Tryf.ntmps3
    go_wp2_with fail
    refine C4.out.mono ?_
    rintro e w' ⟨rfl, rfl⟩
    have hd : decide (s.size ≤ 1048576) = false := by simp; omega
    rw [hd]
    clear C4
    go_wp2
    go_ret
    exact ⟨rfl, Below.refl _ _⟩
end Go.Proofs.YtdejboelpcnigaaFmt.fnQuoteOrNullASCIIModel
