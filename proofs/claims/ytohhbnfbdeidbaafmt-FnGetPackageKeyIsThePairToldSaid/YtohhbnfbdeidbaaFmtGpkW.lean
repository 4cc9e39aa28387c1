/- The walk of the law FnGetPackageKeyIsThePair: it returns true for every input. No condition. -/
import Derived.Test.YtohhbnfbdeidbaaFmtPnp
namespace Go.Proofs.YtohhbnfbdeidbaaFmt.fnGetPackageKeyIsThePair
open Go.RowKit Go.Maps Go.Proofs.YtohhbnfbdeidbaaFmt.Base Go.Proofs.YtohhbnfbdeidbaaFmt.Mps Go.Proofs.YtohhbnfbdeidbaaFmt.Pnp
set_option linter.unusedVariables false
theorem empty_iff (a : ByteArray) : a.toList.isEmpty = true ↔ a = ⟨#[]⟩ := by
  rw [Lib.toList_data]
  constructor
  · intro h
    exact ext_list (by simpa using h)
  · rintro rfl; rfl
theorem app_left (a b : ByteArray) : (a ++ b = a ∧ (⟨#[]⟩ : ByteArray) = b) ↔ b = ⟨#[]⟩ := by
  constructor
  · rintro ⟨_, h⟩; exact h.symm
  · rintro rfl
    exact ⟨ext_list (by rw [list_append]; simp), rfl⟩
theorem app_right (a b : ByteArray) : ((⟨#[]⟩ : ByteArray) = a ∧ a ++ b = b) ↔ a = ⟨#[]⟩ := by
  constructor
  · rintro ⟨h, _⟩; exact h.symm
  · rintro rfl
    exact ⟨rfl, ext_list (by rw [list_append]; simp)⟩
theorem grown_below {w w' : World} {row B : Nat} (h : w.grownBy w' (some row)) (hB : B ≤ w.heap.size) (hr : B ≤ row) : Below B w w' :=
  ⟨h.os, h.tape, h.output, h.size, fun i hi => h.block i (by omega) (by simp; omega)⟩
set_option maxRecDepth 100000 in
set_option maxHeartbeats 4000000 in
theorem walk (a b loc : ByteArray) (w : World) (ha : a.size ≤ maxLen) (hb : b.size ≤ maxLen) (hl : loc.size ≤ maxLen) :
    Calls Tryf.prog 3 #[.string a, .string b, .string loc] w fun e w' => e = .returned (.bool true) ∧ Below w.heap.size w w' := by
  have C5 := Lib.hid (bytes5 a b loc w ha hb hl)
  go_enter Tryf.func3, Tryf.ntmps3
  go_wp2_with fail
  refine C5.out.mono ?_
  rintro e w' ⟨r, rfl, hr, rfl⟩
  clear C5
  cases r
  · clear hr
    go_wp2_with fail
    go_ret
    exact ⟨rfl, Below.refl _ _⟩
  · have hsum := hr rfl
    have hab : (a ++ b).size ≤ maxLen := by rw [ByteArray.size_append]; unfold maxLen; omega
    clear hr
    go_wp2_with (first | (go_at_call 6; refine (one6 _ _ (by omega)).mono ?_; rintro e w' ⟨rfl, rfl⟩) | (go_at_call 7; refine (new7 _).mono ?_; rintro e w1 ⟨rfl, hman, hm1, hm2, hb1, hs1⟩))
    have HMan := Lib.hid hman; have HM1 := Lib.hid hm1; have HM2 := Lib.hid hm2; have HB1 := Lib.hid hb1; have HS1 := Lib.hid hs1
    clear hman hm1 hm2 hb1 hs1
    go_wp2_with (go_at_call 8; refine (ident8 _ _ _ 0 _ a _ HMan.out HM1.out (by omega) ha).mono ?_; rintro e w2 ⟨rfl, hman2, hm2, hi2, hg2⟩)
    have HMan2 := Lib.hid hman2; have HR2 := Lib.hid hm2; have HI2 := Lib.hid hi2; have HG2 := Lib.hid hg2
    clear hman2 hm2 hi2 hg2
    go_wp2_with (go_at_call 9; refine (put9 _ _ _ w1.heap.size 1 0 _ _ a b loc _ HMan2.out HR2.out (by simp [upd]) HI2.out (by omega) ha hb).mono ?_; rintro e w3 ⟨rfl, hman3, hi3, hd3, hg3⟩)
    have hone : One w3 (w.heap.size + 2) w.heap.size (w.heap.size + 1) w1.heap.size w2.heap.size a b loc := ⟨hman3, HR2.out.kept hg3 (by have := HS1.out; simp; omega), hi3, hd3⟩
    have hB3 : Below w.heap.size w w3 := (HB1.out.trans (grown_below HG2.out HB1.out.size (Nat.le_refl _))).trans (grown_below hg3 (Nat.le_trans HB1.out.size HG2.out.size) (by have := HS1.out; omega))
    have ONE := Lib.hid hone; have HB3 := Lib.hid hB3
    clear hman3 hi3 hd3 hg3 hone hB3 HMan HM1 HM2 HB1 HS1 HMan2 HR2 HI2 HG2
    go_wp2_with fail
    refine (one_yes ONE.out ha hb).mono ?_
    rintro e w4 ⟨rfl, h4⟩
    have HB4 := Lib.hid (HB3.out.trans (h4.mono HB3.out.size)); have ONE4 := Lib.hid (ONE.out.later h4)
    clear h4 ONE HB3
    go_wp2_with fail
    obtain ⟨ok2, hok2⟩ : ∃ ok, (a.toList == b.toList) = ok := ⟨_, rfl⟩
    obtain ⟨ok3, hok3⟩ : ∃ ok, b.toList.isEmpty = ok := ⟨_, rfl⟩
    obtain ⟨ok4, hok4⟩ : ∃ ok, a.toList.isEmpty = ok := ⟨_, rfl⟩
    have I2 : Hid (ok2 = true ↔ (b = a ∧ a = b)) := Lib.hid (by rw [← hok2, eq_toList, decide_eq_true_eq]; exact ⟨fun h => ⟨h.symm, h⟩, fun h => h.2⟩)
    have I3 : Hid (ok3 = true ↔ (a ++ b = a ∧ (⟨#[]⟩ : ByteArray) = b)) := Lib.hid (by rw [app_left, ← hok3, empty_iff])
    have I4 : Hid (ok4 = true ↔ ((⟨#[]⟩ : ByteArray) = a ∧ a ++ b = b)) := Lib.hid (by rw [app_right, ← hok4, empty_iff])
    have h0 : (⟨#[]⟩ : ByteArray).size ≤ maxLen := by unfold maxLen; decide
    have HA := Lib.hid ha; have HBb := Lib.hid hb; have HAB := Lib.hid hab; have H0 := Lib.hid h0
    have J2 := Lib.hid hok2; have J3 := Lib.hid hok3; have J4 := Lib.hid hok4
    clear ha hb hab hl h0 hok2 hok3 hok4 hsum
    refine (one_any ONE4.out b a HBb.out HA.out ok2 I2.out).mono ?_
    rintro e w5 ⟨rfl, h5⟩
    have HB5 := Lib.hid (HB4.out.trans (h5.mono HB4.out.size)); have ONE5 := Lib.hid (ONE4.out.later h5)
    clear h5 ONE4 HB4
    have hok2 := J2.out
    cases ok2
    all_goals
      go_wp2_with fail
      clear hok2
      refine (one_any ONE5.out (a ++ b) ⟨#[]⟩ HAB.out H0.out ok3 I3.out).mono ?_
      rintro e w6 ⟨rfl, h6⟩
      have HB6 := Lib.hid (HB5.out.trans (h6.mono HB5.out.size)); have ONE6 := Lib.hid (ONE5.out.later h6)
      clear h6 ONE5 HB5
      have hok3 := J3.out
      cases ok3
      all_goals
        go_wp2_with fail
        clear hok3
        refine (one_any ONE6.out ⟨#[]⟩ (a ++ b) H0.out HAB.out ok4 I4.out).mono ?_
        rintro e w7 ⟨rfl, h7⟩
        have HB7 := Lib.hid (HB6.out.trans (h7.mono HB6.out.size))
        clear h7 ONE6 HB6
        have hok4 := J4.out
        cases ok4
        all_goals
          go_wp2_with fail
          clear hok4
          refine (emp11 _).mono ?_
          rintro e w8 ⟨rfl, hc8, h8⟩
          have HB8 := Lib.hid (HB7.out.trans (h8.mono HB7.out.size)); have HC8 := Lib.hid hc8
          clear h8 HB7 hc8
          go_wp2_with fail
          refine (get10 w7.heap.size a b ⟨#[]⟩ none false w8 (fun m hm => by cases hm) (fun W hW => by subst hW; exact nil19 _ a b _ HC8.out HA.out)).mono ?_
          rintro e w9 ⟨rfl, h9⟩
          have HB9 := Lib.hid (HB8.out.trans (h9.mono HB8.out.size))
          clear h9 HB8 HC8
          go_wp2_with fail
          go_ret
          exact ⟨rfl, HB9.out⟩
end Go.Proofs.YtohhbnfbdeidbaaFmt.fnGetPackageKeyIsThePair
