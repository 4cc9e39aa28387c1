/- The reverse resolve of an object with one expansion key, by its contract. Conditions: what the target answers is laid ahead. -/
import Derived.Test.YtoonlcdifpffnaaIeE
namespace Go.Proofs.Ytoonlcdifpffnaa.IeF
open Go.RowKit Go.Deep Go.Proofs.Ytoonlcdifpffnaa.Base Go.Proofs.Ytoonlcdifpffnaa.Sls Go.Proofs.Ytoonlcdifpffnaa.IeA Go.Proofs.Ytoonlcdifpffnaa.IeB Go.Proofs.Ytoonlcdifpffnaa.IeC Go.Proofs.Ytoonlcdifpffnaa.IeD Go.Proofs.Ytoonlcdifpffnaa.IeE
set_option linter.unusedVariables false
attribute [local go_sem ↓] Go.wp_at_zero Go.wp_at_succ
def Ok (P : Program) (f : Nat) (args : Array Value) (v : Value) : Prop := ∀ w : World, Calls P f args w fun e w' => e = .returned v ∧ Below w.heap.size w w'
set_option maxRecDepth 20000 in
set_option maxHeartbeats 2000000 in
theorem revx17 (q key tv want : ByteArray) (B C n m cap cc : Nat) (ks vs : Nat → ByteArray) (lf : Nat → Int) (sb : Bool) (w : World) (hm : m = n + 1) (hn : m ≤ 65537) (hq : q.size ≤ 9223372036854775807) (hkz : key.size ≤ 9223372036854775807) (hr : w.rowIs B 43 (m * 10) (entt ks vs lf m)) (hc : w.rowIs C 43 10 (fldt key tv ((n : Nat) + 1) 2 1))
    (hs : Lib.hasSuffix q.data.toList star.data.toList = false) (hsk : Lib.hasSuffix key.data.toList star.data.toList = sb) (hno : ∀ i, i < n → q ≠ vs i) (hkn : ks n = key) (hvn : vs n = tv) (hln : lf n = 2) (hx : q = tv → key = want)
    (h1 : sb = true → Ok Try.prog 19 #[.agg #[.pointer none, .pointer none, .pointer none, .int .u8 0], .string q, .string key, .agg #[.string tv, .slice none 0 0, .slice none 0 0, .slice none 0 0, .int .i32 ((n : Nat) + 1), .int .i32 2, .int .u8 1], .int .u8 1, .map none] (.tuple #[.bool true, .string want, .agg #[.int .i32 ((n : Nat) + 1), .int .i32 2]])) (h2 : sb = false → Ok Try.prog 19 #[.agg #[.pointer none, .pointer none, .pointer none, .int .u8 0], .string q, .string key, .agg #[.string tv, .slice none 0 0, .slice none 0 0, .slice none 0 0, .int .i32 ((n : Nat) + 1), .int .i32 2, .int .u8 1], .int .u8 2, .map none] (.tuple #[.bool true, .string want, .agg #[.int .i32 ((n : Nat) + 1), .int .i32 2]])) :
    Calls Try.prog 17 #[.agg #[.pointer none, .pointer none, .pointer none, .int .u8 0], .string q, .agg #[.string { data := #[] }, .slice none 0 0, .slice (some ⟨B, 0, none⟩) m cap, .slice (some ⟨C, 0, none⟩) 1 cc, .int .i32 0, .int .i32 0, .int .u8 3], .map none] w fun e w' => e = .returned (.tuple #[.bool true, .string want, .agg #[.int .i32 ((n : Nat) + 1), .int .i32 2]]) ∧ Below w.heap.size w w' := by
  have HS := Lib.hid (fun w => Try.strings_HasSuffix q star w hq)
  rw [hs] at HS
  have HSK := Lib.hid (fun w => Try.strings_HasSuffix key star w hkz)
  rw [hsk] at HSK
  have hBz := hr.lt
  have hCz := hc.lt
  have R0 : Hid (∀ (x : World) (o : Obj) , (((x.alloc (.cells #[.pointer none, .pointer none, .pointer none, .int .u8 0] 53)).alloc (.cells #[.string { data := #[] }, .slice none 0 0, .slice (some ⟨B, 0, none⟩) m cap, .slice (some ⟨C, 0, none⟩) 1 cc, .int .i32 0, .int .i32 0, .int .u8 3] 34)).alloc o).rowIs x.heap.size 53 4 rq4) := Lib.hid fun x o => ((rowq x).alloc _).alloc _
  have R1 : Hid (∀ (x : World) (o0 o : Obj) , (((x.alloc o0).alloc (.cells #[.string { data := #[] }, .slice none 0 0, .slice (some ⟨B, 0, none⟩) m cap, .slice (some ⟨C, 0, none⟩) 1 cc, .int .i32 0, .int .i32 0, .int .u8 3] 34)).alloc o).rowIs (x.heap.size + 1) 34 7 (obj7 (.slice (some ⟨B, 0, none⟩) m cap) (.slice (some ⟨C, 0, none⟩) 1 cc))) := Lib.hid fun x o0 o => by
    have := rowo (.slice (some ⟨B, 0, none⟩) m cap) (.slice (some ⟨C, 0, none⟩) 1 cc) (x.alloc o0)
    rw [World.size_alloc] at this
    exact this.alloc _
  have R2 : Hid (∀ (x : World) (o0 o : Obj) , (((x.alloc o0).alloc o).alloc (.cells #[.int .i32 0, .int .i32 0] 31)).rowIs (x.heap.size + 1 + 1) 31 2 (two 0 0)) := Lib.hid fun x o0 o => by
    have := row2 ((x.alloc o0).alloc o)
    rw [World.size_alloc, World.size_alloc] at this
    exact this
  have HB := Lib.hid hr; have HC := Lib.hid hc; have HNO := Lib.hid hno; have HX := Lib.hid hx; have H1 := Lib.hid h1; have H2 := Lib.hid h2
  have HKN := Lib.hid hkn; have HVN := Lib.hid hvn; have HLN := Lib.hid hln; have HM := Lib.hid hm
  clear hr hc hno hx h1 h2 hs hsk hkn hvn hln hm
  go_enter Try.func17, Try.ntmps17
  go_wp2_with (first | (go_at_call 18; refine (HS.out _).mono ?_; rintro e w7 ⟨rfl, rfl⟩) | fail)
  go_loopw [30] (fun i wr => ∃ k : Nat, k ≤ m ∧ i = .int .i64 k ∧ Hid (∀ i, i < k → q ≠ vs i) ∧ wr.rowIs B 43 (m * 10) (entt ks vs lf m) ∧ wr.rowIs C 43 10 (fldt key tv ((n : Nat) + 1) 2 1) ∧ wr.rowIs w.heap.size 53 4 rq4 ∧ wr.rowIs (w.heap.size + 1) 34 7 (obj7 (.slice (some ⟨B, 0, none⟩) m cap) (.slice (some ⟨C, 0, none⟩) 1 cc)) ∧ wr.rowIs (w.heap.size + 1 + 1) 31 2 (two 0 0) ∧ Below w.heap.size w wr) (fun i _ => m - (intOf i).toNat)
  case atStart => exact ⟨0, by omega, rfl, Lib.hid (fun i h => absurd h (Nat.not_lt_zero _)), ((HB.out.alloc _).alloc _).alloc _, ((HC.out.alloc _).alloc _).alloc _, R0.out _ _, R1.out _ _ _, R2.out _ _ _, (((Below.refl _ _).alloc (Nat.le_refl _) _).alloc (by simp only [World.size_alloc]; omega) _).alloc (by simp only [World.size_alloc]; omega) _⟩
  case round =>
    obtain ⟨k, hk, rfl, HF, HR, HRC, HR0, HR1, HR2, hbel⟩ := hrel
    have hsz : w.heap.size + 1 + 1 < wr.heap.size := HR2.lt
    have hBw : B < wr.heap.size := HR.lt
    have hCw : C < wr.heap.size := HRC.lt
    have hsz0 : w.heap.size < wr.heap.size := by omega
    have hsz1 : w.heap.size + 1 < wr.heap.size := by omega
    have r0 := HR0.cell (i := 0) (by omega)
    have r1 := HR0.cell (i := 1) (by omega)
    have r2 := HR0.cell (i := 2) (by omega)
    have r3 := HR0.cell (i := 3) (by omega)
    have d0 := HR2.cell (i := 0) (by omega)
    have d1 := HR2.cell (i := 1) (by omega)
    have g0 := HR2.frozen 0
    have g1 := HR2.frozen 1
    simp only [two, rq4] at d0 d1 r0 r1 r2 r3
    by_cases hlt : k < m
    · 
        have c0 := HR.cell (i := k * 10) (by omega)
        have c1 := HR.cell (i := k * 10 + 1) (by omega)
        have c2 := HR.cell (i := k * 10 + 2) (by omega)
        have c3 := HR.cell (i := k * 10 + 3) (by omega)
        have c4 := HR.cell (i := k * 10 + 4) (by omega)
        have c5 := HR.cell (i := k * 10 + 5) (by omega)
        have c6 := HR.cell (i := k * 10 + 6) (by omega)
        have c7 := HR.cell (i := k * 10 + 7) (by omega)
        have c8 := HR.cell (i := k * 10 + 8) (by omega)
        have c9 := HR.cell (i := k * 10 + 9) (by omega)
        have e0 := entt_at ks vs lf m k 0 hlt (by omega)
        have e1 := entt_at ks vs lf m k 1 hlt (by omega)
        have e2 := entt_at ks vs lf m k 2 hlt (by omega)
        have e3 := entt_at ks vs lf m k 3 hlt (by omega)
        have e4 := entt_at ks vs lf m k 4 hlt (by omega)
        have e5 := entt_at ks vs lf m k 5 hlt (by omega)
        have e6 := entt_at ks vs lf m k 6 hlt (by omega)
        have e7 := entt_at ks vs lf m k 7 hlt (by omega)
        have e8 := entt_at ks vs lf m k 8 hlt (by omega)
        have e9 := entt_at ks vs lf m k 9 hlt (by omega)
        simp only [fldt] at e0 e1 e2 e3 e4 e5 e6 e7 e8 e9
        rw [Nat.add_zero] at e0
        rw [e0] at c0
        rw [e1] at c1
        rw [e2] at c2
        rw [e3] at c3
        rw [e4] at c4
        rw [e5] at c5
        rw [e6] at c6
        rw [e7] at c7
        rw [e8] at c8
        rw [e9] at c9
        clear e0 e1 e2 e3 e4 e5 e6 e7 e8 e9
        have Q := Lib.hid HR; have QC := Lib.hid HRC; have Q0 := Lib.hid HR0; have Q1 := Lib.hid HR1; have Q2 := Lib.hid HR2; have Q3 := Lib.hid hbel
        have x1 : (0 : Int) ≤ (k : Int) := by omega
        have x2 : (k : Int) < (m : Int) := by omega
        clear HR HRC HR0 HR1 HR2 hbel
        by_cases hqv : q = vs k
        · have hkn : k = n := by
            rcases Nat.lt_or_ge k n with g | g
            · exact absurd hqv (HNO.out k g)
            · have := HM.out; omega
          subst hkn
          have hw : ks k = want := by rw [HKN.out]; exact HX.out (by rw [← HVN.out]; exact hqv)
          have hl2 : lf k = 2 := HLN.out
          have HQ := Lib.hid hqv
          clear hqv
          rw [hw] at c0
          rw [hl2] at c6
          clear hw hl2
          go_wp2_with (fail)
          clear c0 c1 c2 c3 c4 c5 c6 c7 c8 c9 r0 r1 r2 r3 d0 d1 g0 g1
          refine (rev19t _ _ _ _ _ _ _ HQ.out).mono ?_
          rintro e w3 ⟨rfl, hb3⟩
          have B3 := (Q3.out.alloc Q3.out.size _).trans (hb3.mono (by simp only [World.size_alloc]; omega))
          have P2 := row_below (Q2.out.alloc _) hb3 (by simp only [World.size_alloc]; omega)

          have l3 := hb3.size
          simp only [World.size_alloc] at l3
          have d0 := P2.cell (i := 0) (by omega)
          have d1 := P2.cell (i := 1) (by omega)
          have g0 := P2.frozen 0
          have g1 := P2.frozen 1
          simp only [two] at d0 d1
          have l4 : w.heap.size + 1 + 1 < w3.heap.size := by omega
          have HB3 := Lib.hid B3; have HP2 := Lib.hid P2
          clear B3 P2 hb3
          go_wp2
          go_region
          all_goals go_wp2

          all_goals
            have S2 := ((HP2.out.set 0 (.int .i32 ((k : Nat) + 1))).set 1 (.int .i32 2)).alloc (.cells #[.int .i32 ((k : Nat) + 1), .int .i32 2] 31)
            have s0 := S2.cell (i := 0) (by omega)
            have s1 := S2.cell (i := 1) (by omega)
            simp at s0 s1
            have B7 := ((bset2 HB3.out (Nat.le_of_lt (Nat.lt_succ_of_lt (Nat.lt_succ_self w.heap.size))) (.int .i32 ((k : Nat) + 1)) (.int .i32 2)).alloc (by simp only [World.size_setCell]; omega) (.cells #[.int .i32 ((k : Nat) + 1), .int .i32 2] 31)).drew
            exact bodyPost_ret (v := .tuple #[.bool true, .string want, .agg #[.int .i32 ((k : Nat) + 1), .int .i32 2]]) (by simp [results, Try.results17, go_sem, s0, s1]) rfl ⟨rfl, B7⟩

        · 
          go_wp2_with (fail)
          clear c0 c1 c2 c3 c4 c5 c6 c7 c8 c9 r0 r1 r2 r3 d0 d1 g0 g1
          refine (rev19f _ _ _ _ _ _ _ hqv).mono ?_
          rintro e w3 ⟨rfl, hb3⟩
          have B3 := (Q3.out.alloc Q3.out.size _).trans (hb3.mono (by simp only [World.size_alloc]; omega))
          have P2 := row_below (Q2.out.alloc _) hb3 (by simp only [World.size_alloc]; omega)

          have P1 := row_below (Q1.out.alloc _) hb3 (by simp only [World.size_alloc]; omega)
          have P0 := row_below (Q0.out.alloc _) hb3 (by simp only [World.size_alloc]; omega)
          have P := row_below (Q.out.alloc _) hb3 (by simp only [World.size_alloc]; omega)
          have PC := row_below (QC.out.alloc _) hb3 (by simp only [World.size_alloc]; omega)
          have HB3 := Lib.hid B3; have HP2 := Lib.hid P2; have HP1 := Lib.hid P1; have HP0 := Lib.hid P0; have HP := Lib.hid P; have HPC := Lib.hid PC
          clear B3 P2 P1 P0 P PC hb3
          go_wp2
          go_roundw
          case rel => exact ⟨k + 1, by omega, by go_num, Lib.hid (fun i h => by
            rcases Nat.lt_or_ge i k with g | g
            · exact HF.out i g
            · obtain rfl : i = k := by omega
              exact hqv), HP.out.alloc _, HPC.out.alloc _, HP0.out.alloc _, HP1.out.alloc _, HP2.out.alloc _, HB3.out.alloc HB3.out.size _⟩
          case measure => simp [intOf]; omega
    · obtain rfl : k = m := by omega
      have o3 := HR1.cell (i := 3) (by omega)
      simp only [obj7] at o3
      have Q2 := Lib.hid HR2; have Q3 := Lib.hid hbel; have QC := Lib.hid HRC; have Q0 := Lib.hid HR0
      clear HR HRC HR0 HR1 HR2 hbel r0 r1 r2 r3 d0 d1 g0 g1
      have wsz := Lib.hid (And.intro hsz hsz1)
      clear hsz hsz0 hsz1 hBw hCw
      go_wp2
      go_loopw [53] (fun i wx => i = .int .i64 0 ∧ wx.rowIs C 43 10 (fldt key tv ((n : Nat) + 1) 2 1) ∧ wx.rowIs w.heap.size 53 4 rq4 ∧ wx.rowIs (w.heap.size + 1 + 1) 31 2 (two 0 0) ∧ Below w.heap.size w wx) (fun i _ => 0)
      case atStart => exact ⟨rfl, QC.out, Q0.out, Q2.out, Q3.out⟩
      case round =>
        obtain ⟨rfl, HRC, HR0, HR2, hbel⟩ := hrel
        have hsz : w.heap.size + 1 + 1 < wr.heap.size := HR2.lt
        have hCw : C < wr.heap.size := HRC.lt
        have hsz0 : w.heap.size < wr.heap.size := by omega
        have r0 := HR0.cell (i := 0) (by omega)
        have r1 := HR0.cell (i := 1) (by omega)
        have r2 := HR0.cell (i := 2) (by omega)
        have r3 := HR0.cell (i := 3) (by omega)
        have d0 := HR2.cell (i := 0) (by omega)
        have d1 := HR2.cell (i := 1) (by omega)
        have g0 := HR2.frozen 0
        have g1 := HR2.frozen 1
        have c0 := HRC.cell (i := 0) (by omega)
        have c1 := HRC.cell (i := 1) (by omega)
        have c2 := HRC.cell (i := 2) (by omega)
        have c3 := HRC.cell (i := 3) (by omega)
        have c4 := HRC.cell (i := 4) (by omega)
        have c5 := HRC.cell (i := 5) (by omega)
        have c6 := HRC.cell (i := 6) (by omega)
        have c7 := HRC.cell (i := 7) (by omega)
        have c8 := HRC.cell (i := 8) (by omega)
        have c9 := HRC.cell (i := 9) (by omega)
        simp only [two, rq4, fldt] at d0 d1 r0 r1 r2 r3 c0 c1 c2 c3 c4 c5 c6 c7 c8 c9
        have Q2 := Lib.hid HR2; have Q3 := Lib.hid hbel
        clear HRC HR0 HR2 hbel
        cases sb
        · 
          go_wp2_with (first | (go_at_call 18; refine (HSK.out _).mono ?_; rintro e w7 ⟨rfl, rfl⟩) | fail)
          clear c0 c1 c2 c3 c4 c5 c6 c7 c8 c9 r0 r1 r2 r3 d0 d1 g0 g1
          refine (H2.out (by trivial) _).mono ?_
          rintro e w3 ⟨rfl, hb3⟩
          have B3 := (Q3.out.alloc Q3.out.size _).trans (hb3.mono (by simp only [World.size_alloc]; omega))
          have P2 := row_below (Q2.out.alloc _) hb3 (by simp only [World.size_alloc]; omega)

          have l3 := hb3.size
          simp only [World.size_alloc] at l3
          have d0 := P2.cell (i := 0) (by omega)
          have d1 := P2.cell (i := 1) (by omega)
          have g0 := P2.frozen 0
          have g1 := P2.frozen 1
          simp only [two] at d0 d1
          have l4 : w.heap.size + 1 + 1 < w3.heap.size := by omega
          have HB3 := Lib.hid B3; have HP2 := Lib.hid P2
          clear B3 P2 hb3
          go_wp2
          go_region
          all_goals go_wp2

          all_goals
            have S2 := ((HP2.out.set 0 (.int .i32 ((n : Nat) + 1))).set 1 (.int .i32 2)).alloc (.cells #[.int .i32 ((n : Nat) + 1), .int .i32 2] 31)
            have s0 := S2.cell (i := 0) (by omega)
            have s1 := S2.cell (i := 1) (by omega)
            simp at s0 s1
            have B7 := ((bset2 HB3.out (Nat.le_of_lt (Nat.lt_succ_of_lt (Nat.lt_succ_self w.heap.size))) (.int .i32 ((n : Nat) + 1)) (.int .i32 2)).alloc (by simp only [World.size_setCell]; omega) (.cells #[.int .i32 ((n : Nat) + 1), .int .i32 2] 31)).drew
            exact bodyPost_ret (v := .tuple #[.bool true, .string want, .agg #[.int .i32 ((n : Nat) + 1), .int .i32 2]]) (by simp [results, Try.results17, go_sem, s0, s1]) rfl ⟨rfl, B7⟩

        · 
          go_wp2_with (first | (go_at_call 18; refine (HSK.out _).mono ?_; rintro e w7 ⟨rfl, rfl⟩) | fail)
          clear c0 c1 c2 c3 c4 c5 c6 c7 c8 c9 r0 r1 r2 r3 d0 d1 g0 g1
          refine (H1.out (by trivial) _).mono ?_
          rintro e w3 ⟨rfl, hb3⟩
          have B3 := (Q3.out.alloc Q3.out.size _).trans (hb3.mono (by simp only [World.size_alloc]; omega))
          have P2 := row_below (Q2.out.alloc _) hb3 (by simp only [World.size_alloc]; omega)

          have l3 := hb3.size
          simp only [World.size_alloc] at l3
          have d0 := P2.cell (i := 0) (by omega)
          have d1 := P2.cell (i := 1) (by omega)
          have g0 := P2.frozen 0
          have g1 := P2.frozen 1
          simp only [two] at d0 d1
          have l4 : w.heap.size + 1 + 1 < w3.heap.size := by omega
          have HB3 := Lib.hid B3; have HP2 := Lib.hid P2
          clear B3 P2 hb3
          go_wp2
          go_region
          all_goals go_wp2

          all_goals
            have S2 := ((HP2.out.set 0 (.int .i32 ((n : Nat) + 1))).set 1 (.int .i32 2)).alloc (.cells #[.int .i32 ((n : Nat) + 1), .int .i32 2] 31)
            have s0 := S2.cell (i := 0) (by omega)
            have s1 := S2.cell (i := 1) (by omega)
            simp at s0 s1
            have B7 := ((bset2 HB3.out (Nat.le_of_lt (Nat.lt_succ_of_lt (Nat.lt_succ_self w.heap.size))) (.int .i32 ((n : Nat) + 1)) (.int .i32 2)).alloc (by simp only [World.size_setCell]; omega) (.cells #[.int .i32 ((n : Nat) + 1), .int .i32 2] 31)).drew
            exact bodyPost_ret (v := .tuple #[.bool true, .string want, .agg #[.int .i32 ((n : Nat) + 1), .int .i32 2]]) (by simp [results, Try.results17, go_sem, s0, s1]) rfl ⟨rfl, B7⟩

end Go.Proofs.Ytoonlcdifpffnaa.IeF
