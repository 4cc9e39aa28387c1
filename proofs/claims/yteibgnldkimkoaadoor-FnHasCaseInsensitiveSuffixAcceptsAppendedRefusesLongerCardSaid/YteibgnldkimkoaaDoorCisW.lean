/- The walk of the law FnHasCaseInsensitiveSuffixAcceptsAppendedRefusesLonger: for all p and x it returns true. Condition: the tables of unicode/utf8 read as laid. -/
import Derived.Test.YteibgnldkimkoaaDoorFdu
import Derived.Test.YteibgnldkimkoaaDoorRows
import Derived.Test.YteibgnldkimkoaaDoorSls
import Derived.Lib.LaidU8
import Derived.LaidLaws
import Derived.LaidMore
namespace Go.Proofs.YteibgnldkimkoaaDoor.fnHasCaseInsensitiveSuffixAcceptsAppendedRefusesLonger
open Go.RowKit Go.Shelf Go.Lib Go.Proofs Go.Proofs.YteibgnldkimkoaaDoor.Base Go.Proofs.YteibgnldkimkoaaDoor.Sls Go.Proofs.YteibgnldkimkoaaDoor.Fdp Go.Proofs.YteibgnldkimkoaaDoor.Fdw Go.Proofs.YteibgnldkimkoaaDoor.Fdu
set_option linter.unusedVariables false
/-- If it says yes, what the arguments lead to is short. -/
theorem bytes_any (s0 : ByteArray) (s1 : ByteArray) (w : World) (hs0 : s0.size ≤ maxLen) (hs1 : s1.size ≤ maxLen) :
    Calls Tryd.prog 4 #[.string s0, .string s1] w (Bd (s0.size + s1.size ≤ 1048576) w) := by
  unfold maxLen at hs0
  unfold maxLen at hs1
  go_enter Tryd.func4, Tryd.ntmps4
  go_wp2
  all_goals first | (go_ret; exact ⟨false, rfl, (fun h => by cases h), rfl⟩) | skip
  go_ret
  exact ⟨true, rfl, (fun _ => by omega), rfl⟩
set_option maxRecDepth 100000 in
theorem tabs (w : World) (hL : laidMetH Tryd.prog Rows.fnHasCaseInsensitiveSuffixAcceptsAppendedRefusesLongerRow.laid w) : Lib.Utf8Tabs 3 4 w := by
  rw [MakeChecks.laidMetH_plain _ _ _ (by kernel_rfl)] at hL
  exact utf8Tabs_of_reads (ρ := Go.Proofs.Tryd.lays260_ren) { Go.Proofs.Tryd.lays260 with } ⟨by kernel_rfl, by kernel_rfl, by kernel_rfl, by kernel_rfl, by kernel_rfl, by kernel_rfl, by kernel_rfl⟩ (Lib.laidMet.reads hL (.tail _ (.tail _ (.tail _ (.tail _ (.head _)))))) (Lib.laidMet.reads hL (.head _))
set_option maxRecDepth 20000 in
theorem main (p x : ByteArray) (w : World) (hp : p.size ≤ 262144) (hx : x.size ≤ 262144) (hT : Lib.Utf8Tabs 3 4 w) (hy : Calls Tryd.prog 4 #[.string p, .string x] w (Bd True w)) :
    Calls Tryd.prog 3 #[.string p, .string x] w fun e w' => e = .returned (.bool true) ∧ Below w.heap.size w w' := by
  obtain ⟨t3, t4⟩ := tabs_lt hT
  have HT := Lib.hid hT
  have HY := Lib.hid hy
  have us := up_size x
  have U6 := Lib.hid (fun w => upper6 x w hx)
  have z1 := app_size p x
  have z2 := app_size p (up x)
  have C1 := Lib.hid (fun w hT => zz5 (p ++ x) x w (by omega) (by omega) (by rw [app_end p x _ (by omega)]; exact Fo.refl x) hT)
  have C2 := Lib.hid (fun w hT => zz5 (p ++ up x) x w (by omega) (by omega) (by rw [app_end p (up x) _ (by omega)]; exact Fdu.Fo.symm (fo_up x)) hT)
  have C3 := Lib.hid (fun w hT => zz5 (p ++ x) (up x) w (by omega) (by omega) (by rw [app_end p x _ (by omega)]; exact fo_up x) hT)
  have C4 := Lib.hid (fun w (h : 0 < p.size) => zz5no x (p ++ x) w (by omega) (by omega))
  generalize up x = ux at us U6 C2 C3 z2
  generalize hpx : p ++ x = px at z1 C1 C3 C4
  generalize hpu : p ++ ux = pu at z2 C2
  clear hT hy
  go_enter Tryd.func3, Tryd.ntmps3
  go_wp2_with (fail)
  refine HY.out.mono ?_
  rintro e w1 ⟨b1, rfl, _, rfl⟩
  cases b1
  · go_wp2
    go_ret
    exact ⟨rfl, Below.refl _ _⟩
  go_wp2_with (fail)
  refine (C1.out w HT.out).mono ?_
  rintro e w2 ⟨rfl, b2⟩
  have T2 := Lib.hid (tabs_below HT.out b2 t3 t4)
  have B2 := Lib.hid b2
  clear b2 C1
  go_wp2_with (fail)
  refine (U6.out w2).mono ?_
  rintro e w3 ⟨rfl, b3⟩
  have B3 := Lib.hid (B2.out.trans (b3.mono B2.out.size))
  clear b3
  have T3 := Lib.hid (tabs_below HT.out B3.out t3 t4)
  go_wp2_with (fail)
  refine (C2.out w3 T3.out).mono ?_
  rintro e w4 ⟨rfl, b4⟩
  have B4 := Lib.hid (B3.out.trans (b4.mono B3.out.size))
  clear b4 C2
  go_wp2_with (fail)
  refine (U6.out w4).mono ?_
  rintro e w5 ⟨rfl, b5⟩
  have B5 := Lib.hid (B4.out.trans (b5.mono B4.out.size))
  clear b5
  have T5 := Lib.hid (tabs_below HT.out B5.out t3 t4)
  go_wp2_with (fail)
  refine (C3.out w5 T5.out).mono ?_
  rintro e w6 ⟨rfl, b6⟩
  have B6 := Lib.hid (B5.out.trans (b6.mono B5.out.size))
  clear b6 C3
  by_cases h0 : 0 < p.size
  · have h0' : (0 : Int) < (p.size : Int) := by omega
    go_wp2_with (first | (go_at_call 5; refine (C4.out w6 h0).mono ?_; rintro e w7 ⟨rfl, rfl⟩) | fail)
    go_ret
    exact ⟨rfl, B6.out⟩
  · have h0' : ¬ (0 : Int) < (p.size : Int) := by omega
    go_wp2_with (fail)
    go_ret
    exact ⟨rfl, B6.out⟩
theorem walk (a0 : ByteArray) (a1 : ByteArray) (w : World) (w0 : a0.size ≤ maxLen) (w1 : a1.size ≤ maxLen) (hL : laidMetH Tryd.prog Rows.fnHasCaseInsensitiveSuffixAcceptsAppendedRefusesLongerRow.laid w) :
    Calls Tryd.prog 3 #[.string a0, .string a1] w fun e w' => e = .returned (.bool true) ∧ Below w.heap.size w w' := by
  have hT := tabs w hL
  have hy := bytes_any a0 a1 w w0 w1
  unfold maxLen at w0 w1
  clear hL
  by_cases hz : a0.size + a1.size ≤ 1048576
  · have hy' : Calls Tryd.prog 4 #[.string a0, .string a1] w (Bd True w) := hy.mono fun e w' h => by
      obtain ⟨b, h1, _, h3⟩ := h
      exact ⟨b, h1, fun _ => trivial, h3⟩
    by_cases hn : a0.size ≤ 262144 ∧ a1.size ≤ 262144
    · exact main a0 a1 w hn.1 hn.2 hT hy'
    · have HY := Lib.hid hy'
      have d0 : 262144 < a0.size ∨ (a0.size ≤ 262144 ∧ 262144 < a1.size) := by omega
      clear hy hy' hz hn hT
      rcases d0 with d | ⟨d, d'⟩
      all_goals
        go_enter Tryd.func3, Tryd.ntmps3
        go_wp2_with fail
        refine HY.out.mono ?_
        rintro e w' ⟨b, rfl, _, rfl⟩
        cases b
        · go_wp2
          go_ret
          exact ⟨rfl, Below.refl _ _⟩
        · go_wp2
          go_ret
          exact ⟨rfl, Below.refl _ _⟩
  · have H := Lib.hid hy
    have HZ := Lib.hid hz
    clear hy hz hT
    go_enter Tryd.func3, Tryd.ntmps3
    go_wp2_with fail
    refine H.out.mono ?_
    rintro e w' ⟨b, rfl, hb, rfl⟩
    cases b
    · clear hb
      go_wp2
      go_ret
      exact ⟨rfl, Below.refl _ _⟩
    · exact absurd (hb rfl) HZ.out
end Go.Proofs.YteibgnldkimkoaaDoor.fnHasCaseInsensitiveSuffixAcceptsAppendedRefusesLonger
