/- The walk of the law FnSourceMappingsOffLeaveScriptOutputAlone: it returns true. No condition. -/
import Derived.Test.YtpglhdmcbbghpaaFmtSmk
namespace Go.Proofs.YtpglhdmcbbghpaaFmt.fnSourceMappingsOffLeaveScriptOutputAlone
open Go.RowKit Go.Deep Go.Proofs.YtpglhdmcbbghpaaFmt.Base Go.Proofs.YtpglhdmcbbghpaaFmt.Sls Go.Proofs.YtpglhdmcbbghpaaFmt.Byw Go.Proofs.YtpglhdmcbbghpaaFmt.Prq Go.Proofs.YtpglhdmcbbghpaaFmt.Esq Go.Proofs.YtpglhdmcbbghpaaFmt.Unb Go.Proofs.YtpglhdmcbbghpaaFmt.Unq Go.Proofs.YtpglhdmcbbghpaaFmt.Pqt Go.Proofs.YtpglhdmcbbghpaaFmt.Utf Go.Proofs.YtpglhdmcbbghpaaFmt.Jsp Go.Proofs.YtpglhdmcbbghpaaFmt.Smk
set_option linter.unusedVariables false
set_option maxRecDepth 20000 in
set_option maxHeartbeats 16000000 in
theorem walk (a0 : Option Addr) (len0 cap0 : Nat) (z0 : List Int) (a1 : Option Addr) (len1 cap1 : Nat) (z1 : List Int) (a2 : Option Addr) (len2 cap2 : Nat) (z2 : List Int) (a3 : ByteArray) (a4 : ByteArray) (a5 : Int) (a6 : Int) (a7 : Int) (a8 : Bool) (w : World) (w0 : IsRow .u8 w a0 len0 cap0 z0) (w1 : IsRow .u8 w a1 len1 cap1 z1) (w2 : IsRow .u8 w a2 len2 cap2 z2) (w3 : a3.size ≤ maxLen) (w4 : a4.size ≤ maxLen) (w5 : (Lit.int .i32 a5).wf = true) (w6 : (Lit.int .u32 a6).wf = true) (w7 : (Lit.int .u32 a7).wf = true) :
    Calls Tryf.prog 3 #[.slice a0 len0 cap0, .slice a1 len1 cap1, .slice a2 len2 cap2, .string a3, .string a4, .int .i32 a5, .int .u32 a6, .int .u32 a7, .bool a8] w fun e w' => e = .returned (.bool true) ∧ Below w.heap.size w w' := by
  obtain ⟨⟨l0, L0, r0⟩, e0, g0⟩ := rd_of_bytes w0
  obtain ⟨⟨l1, L1, r1⟩, e1, g1⟩ := rd_of_bytes w1
  obtain ⟨⟨l2, L2, r2⟩, e2, g2⟩ := rd_of_bytes w2
  have ZB := Lib.hid (bytes4 a0 len0 cap0 a1 len1 cap1 a2 len2 cap2 a3 a4 (.int .i32 a5) (.int .u32 a6) (.int .u32 a7) (.bool a8) w g0 g1 g2 w3 w4)
  have C0 := Lib.hid (fun (W : World) (hb : Below w.heap.size w W) (h : len0 ≤ 16777216) => cloneB a0 len0 cap0 l0 W L0 h e0 ((r0.below hb).up hb.size))
  have C1 := Lib.hid (fun (W : World) (hb : Below w.heap.size w W) (h : len1 ≤ 16777216) => cloneO a1 len1 cap1 l1 W L1 h e1 ((r1.below hb).up hb.size))
  have C2 := Lib.hid (fun (W : World) (hb : Below w.heap.size w W) (h : len2 ≤ 16777216) => cloneB a2 len2 cap2 l2 W L2 h e2 ((r2.below hb).up hb.size))
  have HL0 := Lib.hid L0; have HL1 := Lib.hid L1; have HL2 := Lib.hid L2
  clear w0 w1 w2 w3 w4 w5 w6 w7 e0 e1 e2 g0 g1 g2 r0 r1 r2 L0 L1 L2
  go_enter Tryf.func3, Tryf.ntmps3
  go_wp2_with (fail)
  refine ZB.out.mono ?_
  rintro e w' ⟨b, rfl, hb, rfl⟩
  clear ZB
  cases b with
  | false =>
    go_wp2
    go_ret
    exact ⟨rfl, Below.refl _ _⟩
  | true =>
    have hsum := hb rfl
    clear hb
    by_cases hops : len1 ≤ 4096
    · have hPb := mul_in len1 len2 a3.size hops (by omega) (by omega)
      obtain ⟨P, hP⟩ : ∃ P, len1 * (len2 + 4 * a3.size + 2) = P := ⟨_, rfl⟩
      have hPi : (len1 : Int) * ((len2 : Int) + 4 * (a3.size : Int) + 2) = (P : Int) := by rw [← hP]; push_cast; rfl
      rw [hP] at hPb
      have HP := Lib.hid hP
      clear hP
      by_cases hbig : P ≤ 16777216
      · have X0 := C0.out w (Below.refl _ _) (by omega)
        go_wp2_with (fail)
        clear hPi
        refine X0.mono ?_
        rintro e v1 ⟨B0, d0, rfl, o0, b1⟩
        clear X0
        have X1 := C1.out v1 b1 (by omega)
        have O0 := Lib.hid o0; have HB1 := Lib.hid b1
        clear o0 b1
        go_wp2_with (fail)
        refine X1.mono ?_
        rintro e v2 ⟨B1, d1, rfl, o1, b2⟩
        clear X1
        have X2 := C2.out v2 (below_join HB1.out HB1.out.size b2) (by omega)
        have O1 := Lib.hid o1; have HB2 := Lib.hid b2
        clear o1 b2
        go_wp2_with (fail)
        refine X2.mono ?_
        rintro e v3 ⟨B2, d2, rfl, o2, b3⟩
        clear X2
        have O2 := Lib.hid o2; have HB3 := Lib.hid b3
        have O03 := Lib.hid ((O0.out.keep HB2.out).keep b3)
        clear o2 b3
        have X3 := cloneB B0 len0 d0 l0 v3 HL0.out (by omega) (own_nil O03.out) O03.out.rd
        go_wp2_with (fail)
        refine X3.mono ?_
        rintro e v4 ⟨B3, d3, rfl, o3, b4⟩
        clear X3
        have O3 := Lib.hid o3; have HB4 := Lib.hid b4
        clear o3 b4
        have X4 := new7 B3 len0 d3 a8 v4
        go_wp2_with (fail)
        refine X4.mono ?_
        rintro e v5 ⟨rfl, q5, b5⟩
        clear X4
        have Q5 := Lib.hid q5; have HB5 := Lib.hid b5
        have O05 := Lib.hid ((O03.out.keep HB4.out).keep b5)
        clear q5 b5
        have X5 := cloneB B0 len0 d0 l0 v5 HL0.out (by omega) (own_nil O05.out) O05.out.rd
        go_wp2_with (fail)
        refine X5.mono ?_
        rintro e v6 ⟨B4, d4, rfl, o4, b6⟩
        clear X5
        have O4 := Lib.hid o4; have HB6 := Lib.hid b6
        clear o4 b6
        have X6 := new7 B4 len0 d4 a8 v6
        go_wp2_with (fail)
        refine X6.mono ?_
        rintro e v7 ⟨rfl, q7, b7⟩
        clear X6
        have S0 := Lib.hid (start_jw (st := len2 + 12 * a3.size + 2) (nk := len1) HL0.out HB1.out O1.out HB2.out O2.out HB3.out O3.out HB4.out Q5.out HB5.out O4.out HB6.out q7 b7)
        clear q7 b7 O0 O1 O2 O3 O4 Q5 O03 O05 HB1 HB2 HB3 HB4 HB5 HB6 C0 C1 C2
        obtain ⟨p1, hp1⟩ : ∃ p1, v4.heap.size = p1 := ⟨_, rfl⟩
        obtain ⟨p2, hp2⟩ : ∃ p2, v6.heap.size = p2 := ⟨_, rfl⟩
        rw [hp1, hp2] at S0
        rw [hp1, hp2]
        clear hp1 hp2
        go_wp2_with (fail)
        go_loopw [21] (fun i wr => Jl w a8 (.slice B1 len1 d1) (.slice B2 len2 d2) l1 l2 p1 p2 len0 (len2 + 12 * a3.size + 2) len1 i wr) (fun i _ => len1 - (intOf i).toNat)
        case atStart => exact S0.out
        case round =>
          clear S0
          obtain ⟨k, A1, A2, n, c1, c2, L, rfl, hk0, hL, HJ⟩ := hrel
          by_cases hk : k < len1
          · have AT : Hid (At w wr a8 (.slice B1 len1 d1) B2 len2 d2 l1 l2 a3 p1 A1 n c1 p2 A2 n c2 L len0 len1 k) := Lib.hid ⟨HJ.out, HL2.out, by omega, hk, hL, by
              have := mul_st len1 len2 a3.size (k + 1) (by rw [HP.out]; exact hbig) hk
              omega⟩
            have hkl : k < l1.length := by rw [HL1.out]; exact hk
            obtain ⟨x, hxe, hxb, hx⟩ := (HJ.out.ops.rd).at_ (bv_at l1 k hkl)
            obtain ⟨b, hb⟩ : ∃ b : Nat, b = (l1[k]).toNat := ⟨_, rfl⟩
            have hb256 : b < 256 := by rw [hb]; exact UInt8.toNat_lt _
            rw [← hb] at hx
            clear hb hkl HJ hL
            have hm := and3 b hb256
            have hkn : (k : Int) < (len1 : Int) := by omega
            have hb1 : (0 : Int) ≤ (b : Int) := by omega
            have hb2 : (b : Int) ≤ 255 := by omega
            subst hxe
            rcases hm with hm | hm | hm | hm
            · have TT := fun x => Lib.hid (AT.out.map8 x)
              clear AT
              go_wp2_with (first | (go_at_call 8; refine (TT _).out.mono ?_; rintro e w9 ⟨rfl, jn⟩; have JN := Lib.hid jn; clear jn) | fail)
              go_roundw
              case rel => exact JN.out
              case measure => simp [intOf]; omega
            · have TT := fun x u => Lib.hid (AT.out.map9 x a6 a7 u)
              clear AT
              go_wp2_with (first | (go_at_call 9; refine (TT _ _).out.mono ?_; rintro e w9 ⟨rfl, jn⟩; have JN := Lib.hid jn; clear jn) | fail)
              all_goals exact ⟨JN.out, by simp [intOf]; omega⟩
            · have TT := AT.out.bytes
              clear AT
              go_wp2_with (first | (go_at_call 10; first | (refine TT.mono ?_; rintro e w8 ⟨rfl, tu⟩; have TU := Lib.hid tu; clear tu TT) | (refine TU.out.mono ?_; rintro e w9 ⟨rfl, jn⟩; have JN := Lib.hid jn; clear jn TU)) | fail)
              go_roundw
              case rel => exact JN.out
              case measure => simp [intOf]; omega
            · have TF := fun F => Lib.hid (AT.out.text F)
              clear AT
              go_wp2_with (first | (go_at_call 11; first | (refine (TF _).out.mono ?_; rintro e w8 ⟨rfl, tu⟩; have TU := Lib.hid tu; clear tu TF) | (refine TU.out.mono ?_; rintro e w9 ⟨rfl, jn⟩; have JN := Lib.hid jn; clear jn TU)) | fail)
              go_roundw
              case rel => exact JN.out
              case measure => simp [intOf]; omega
          · obtain rfl : k = len1 := by omega
            have hl3 := mul_st k len2 a3.size k (by rw [HP.out]; exact hbig) (Nat.le_refl _)
            have hn := HJ.out.len1
            have J1 := Lib.hid (js13 p1 a8 A1 n c1 wr HJ.out.prn1)
            have J2 := Lib.hid (js13 p2 a8 A2 n c2 wr HJ.out.prn2)
            have EQ := Lib.hid (same_long A1 A2 n c1 c2 L wr hn.symm (by omega) HJ.out.own1.rd HJ.out.own2.rd)
            have HB := Lib.hid HJ.out.bel
            clear HJ hL hn hl3 hk0
            go_wp2_with (first | (go_at_call 13; first | (refine J1.out.mono ?_; rintro e w8 ⟨rfl, rfl⟩; clear J1) | (refine J2.out.mono ?_; rintro e w9 ⟨rfl, rfl⟩; clear J2)) | (go_at_call 12; refine EQ.out.mono ?_; rintro e w10 ⟨rfl, kk, rfl⟩) | fail)
            go_ret
            exact ⟨rfl, below_draws HB.out kk⟩
      · go_wp2
        go_ret
        exact ⟨rfl, Below.refl _ _⟩
    · go_wp2
      go_ret
      exact ⟨rfl, Below.refl _ _⟩
end Go.Proofs.YtpglhdmcbbghpaaFmt.fnSourceMappingsOffLeaveScriptOutputAlone
