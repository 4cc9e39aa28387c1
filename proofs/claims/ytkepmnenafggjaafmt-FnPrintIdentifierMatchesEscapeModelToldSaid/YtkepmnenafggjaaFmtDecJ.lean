/- One rune decoded at every place of a string: the model's own decoding. Condition: the place lies inside the string, of at most 2^20 bytes. -/
import Derived.Test.YtkepmnenafggjaaFmtDec
namespace Go.Proofs.YtkepmnenafggjaaFmt.Dec
open Go.RowKit Go.Proofs.YtkepmnenafggjaaFmt.Base
set_option linter.unusedVariables false
theorem Dc_of {c n c' n' : Nat} {w : World} {e : Ending} {w' : World} (h : Dc c n w e w') (hc : (c, n) = (c', n')) : Dc c' n' w e w' := by
  injection hc with h1 h2
  subst h1; subst h2; exact h
/-- One rune, at every place inside the string: the model's own decoding. -/
theorem dec_any (s : ByteArray) (i : Nat) (w : World) (hm : s.size ≤ 1048576) (hi : i < s.size) : Calls Tryf.prog 8 #[.string s, .int .i64 i] w (Dc (Utf8.decode s i).1 (Utf8.decode s i).2 w) := by
  have hd := Lib.decode_at s i
  obtain ⟨b0, h0⟩ : ∃ b0, ∀ h : i < s.size, (s[i]'h).toNat = b0 := ⟨(s[i]'hi).toNat, fun _ => rfl⟩
  have hb := s[i].toNat_lt
  rw [h0 hi] at hb
  rw [get_lt s i hi, h0 hi] at hd
  have z1 := (s.get! (i + 1)).toNat_lt
  have z2 := (s.get! (i + 2)).toNat_lt
  have z3 := (s.get! (i + 3)).toNat_lt
  have h1 : ∀ h : i + 1 < s.size, (s[i + 1]'h).toNat = (s.get! (i + 1)).toNat := fun h => by rw [get_lt s (i + 1) h]
  have h2 : ∀ h : i + 2 < s.size, (s[i + 2]'h).toNat = (s.get! (i + 2)).toNat := fun h => by rw [get_lt s (i + 2) h]
  have h3 : ∀ h : i + 3 < s.size, (s[i + 3]'h).toNat = (s.get! (i + 3)).toNat := fun h => by rw [get_lt s (i + 3) h]
  generalize (s.get! (i + 1)).toNat = b1 at *
  generalize (s.get! (i + 2)).toNat = b2 at *
  generalize (s.get! (i + 3)).toNat = b3 at *
  have hn : 1 ≤ s.size - i := by omega
  have wrap : ∀ {c n : Nat}, Calls Tryf.prog 8 #[.string s, .int .i64 i] w (Dc c n w) → (c, n) = Utf8.decode s i → Calls Tryf.prog 8 #[.string s, .int .i64 i] w (Dc (Utf8.decode s i).1 (Utf8.decode s i).2 w) := fun hc he => hc.mono fun e w' h => Dc_of h he
  by_cases a0 : b0 < 128
  · exact wrap (ascii s i w b0 hm hi h0 a0) (by rw [hd]; unfold Lib.decodeN; rw [if_pos a0])
  by_cases a1 : b0 ≤ 193
  · exact wrap (low s i w b0 hm hi h0 (by omega) a1) (by rw [hd, Lib.bad_eq _ _ _ _ _ (by omega) (by unfold Lib.firstT; rw [if_neg (by omega), if_pos (by omega)])])
  by_cases a2 : 245 ≤ b0
  · exact wrap (high s i w b0 hm hi h0 a2 (by omega)) (by rw [hd, Lib.bad_eq _ _ _ _ _ (by omega) (by unfold Lib.firstT; repeat (first | rw [if_neg (by omega)] | rfl))])
  by_cases cC2 : b0 ≤ 223
  · have E := hd.trans (Lib.slow_C2 (s.size - i) b0 b1 b2 b3 hn z1 z2 z3 (by omega)).symm
    unfold Lib.slowN at E
    by_cases m0 : s.size < i + 2
    · exact wrap (C2_short s i w b0 hm hi m0 h0 (by omega) (by omega)) (by rw [E, if_pos (by omega)])
    by_cases m1 : b1 < 128 ∨ 191 < b1
    · exact wrap (C2_bad1 s i w b0 b1 hm (by omega) h0 (by omega) (by omega) h1 z1  m1) (by rw [E, if_neg (by omega), if_pos m1])
    exact wrap (C2_ok s i w b0 b1 hm (by omega) h0 (by omega) (by omega) h1 (by omega) (by omega)) (by rw [E, if_neg (by omega), if_neg m1, if_pos (by omega)])
  by_cases cE0 : b0 = 224
  · have E := hd.trans (Lib.slow_E0 (s.size - i) b0 b1 b2 b3 hn z1 z2 z3 (by omega)).symm
    unfold Lib.slowN at E
    by_cases m0 : s.size < i + 3
    · exact wrap (E0_short s i w b0 hm hi m0 h0 (by omega) (by omega)) (by rw [E, if_pos (by omega)])
    by_cases m1 : b1 < 160 ∨ 191 < b1
    · exact wrap (E0_bad1 s i w b0 b1 hm (by omega) h0 (by omega) (by omega) h1 z1  m1) (by rw [E, if_neg (by omega), if_pos m1])
    by_cases m2 : b2 < 128 ∨ 191 < b2
    · exact wrap (E0_bad2 s i w b0 b1 b2 hm (by omega) h0 (by omega) (by omega) h1 z1 h2 z2 (by omega) (by omega) m2) (by rw [E, if_neg (by omega), if_neg m1, if_neg (by omega), if_pos m2])
    exact wrap (E0_ok s i w b0 b1 b2 hm (by omega) h0 (by omega) (by omega) h1 (by omega) (by omega) h2 (by omega) (by omega)) (by rw [E, if_neg (by omega), if_neg m1, if_neg (by omega), if_neg m2, if_pos (by omega)])
  by_cases cE1 : b0 ≤ 236
  · have E := hd.trans (Lib.slow_E1 (s.size - i) b0 b1 b2 b3 hn z1 z2 z3 (by omega)).symm
    unfold Lib.slowN at E
    by_cases m0 : s.size < i + 3
    · exact wrap (E1_short s i w b0 hm hi m0 h0 (by omega) (by omega)) (by rw [E, if_pos (by omega)])
    by_cases m1 : b1 < 128 ∨ 191 < b1
    · exact wrap (E1_bad1 s i w b0 b1 hm (by omega) h0 (by omega) (by omega) h1 z1  m1) (by rw [E, if_neg (by omega), if_pos m1])
    by_cases m2 : b2 < 128 ∨ 191 < b2
    · exact wrap (E1_bad2 s i w b0 b1 b2 hm (by omega) h0 (by omega) (by omega) h1 z1 h2 z2 (by omega) (by omega) m2) (by rw [E, if_neg (by omega), if_neg m1, if_neg (by omega), if_pos m2])
    exact wrap (E1_ok s i w b0 b1 b2 hm (by omega) h0 (by omega) (by omega) h1 (by omega) (by omega) h2 (by omega) (by omega)) (by rw [E, if_neg (by omega), if_neg m1, if_neg (by omega), if_neg m2, if_pos (by omega)])
  by_cases cED : b0 = 237
  · have E := hd.trans (Lib.slow_ED (s.size - i) b0 b1 b2 b3 hn z1 z2 z3 (by omega)).symm
    unfold Lib.slowN at E
    by_cases m0 : s.size < i + 3
    · exact wrap (ED_short s i w b0 hm hi m0 h0 (by omega) (by omega)) (by rw [E, if_pos (by omega)])
    by_cases m1 : b1 < 128 ∨ 159 < b1
    · exact wrap (ED_bad1 s i w b0 b1 hm (by omega) h0 (by omega) (by omega) h1 z1  m1) (by rw [E, if_neg (by omega), if_pos m1])
    by_cases m2 : b2 < 128 ∨ 191 < b2
    · exact wrap (ED_bad2 s i w b0 b1 b2 hm (by omega) h0 (by omega) (by omega) h1 z1 h2 z2 (by omega) (by omega) m2) (by rw [E, if_neg (by omega), if_neg m1, if_neg (by omega), if_pos m2])
    exact wrap (ED_ok s i w b0 b1 b2 hm (by omega) h0 (by omega) (by omega) h1 (by omega) (by omega) h2 (by omega) (by omega)) (by rw [E, if_neg (by omega), if_neg m1, if_neg (by omega), if_neg m2, if_pos (by omega)])
  by_cases cEE : b0 ≤ 239
  · have E := hd.trans (Lib.slow_E1 (s.size - i) b0 b1 b2 b3 hn z1 z2 z3 (by omega)).symm
    unfold Lib.slowN at E
    by_cases m0 : s.size < i + 3
    · exact wrap (EE_short s i w b0 hm hi m0 h0 (by omega) (by omega)) (by rw [E, if_pos (by omega)])
    by_cases m1 : b1 < 128 ∨ 191 < b1
    · exact wrap (EE_bad1 s i w b0 b1 hm (by omega) h0 (by omega) (by omega) h1 z1  m1) (by rw [E, if_neg (by omega), if_pos m1])
    by_cases m2 : b2 < 128 ∨ 191 < b2
    · exact wrap (EE_bad2 s i w b0 b1 b2 hm (by omega) h0 (by omega) (by omega) h1 z1 h2 z2 (by omega) (by omega) m2) (by rw [E, if_neg (by omega), if_neg m1, if_neg (by omega), if_pos m2])
    exact wrap (EE_ok s i w b0 b1 b2 hm (by omega) h0 (by omega) (by omega) h1 (by omega) (by omega) h2 (by omega) (by omega)) (by rw [E, if_neg (by omega), if_neg m1, if_neg (by omega), if_neg m2, if_pos (by omega)])
  by_cases cF0 : b0 = 240
  · have E := hd.trans (Lib.slow_F0 (s.size - i) b0 b1 b2 b3 hn z1 z2 z3 (by omega)).symm
    unfold Lib.slowN at E
    by_cases m0 : s.size < i + 4
    · exact wrap (F0_short s i w b0 hm hi m0 h0 (by omega) (by omega)) (by rw [E, if_pos (by omega)])
    by_cases m1 : b1 < 144 ∨ 191 < b1
    · exact wrap (F0_bad1 s i w b0 b1 hm (by omega) h0 (by omega) (by omega) h1 z1  m1) (by rw [E, if_neg (by omega), if_pos m1])
    by_cases m2 : b2 < 128 ∨ 191 < b2
    · exact wrap (F0_bad2 s i w b0 b1 b2 hm (by omega) h0 (by omega) (by omega) h1 z1 h2 z2 (by omega) (by omega) m2) (by rw [E, if_neg (by omega), if_neg m1, if_neg (by omega), if_pos m2])
    by_cases m3 : b3 < 128 ∨ 191 < b3
    · exact wrap (F0_bad3 s i w b0 b1 b2 b3 hm (by omega) h0 (by omega) (by omega) h1 z1 h2 z2 h3 z3 (by omega) (by omega) (by omega) (by omega) m3) (by rw [E, if_neg (by omega), if_neg m1, if_neg (by omega), if_neg m2, if_neg (by omega), if_pos m3])
    exact wrap (F0_ok s i w b0 b1 b2 b3 hm (by omega) h0 (by omega) (by omega) h1 (by omega) (by omega) h2 (by omega) (by omega) h3 (by omega) (by omega)) (by rw [E, if_neg (by omega), if_neg m1, if_neg (by omega), if_neg m2, if_neg (by omega), if_neg m3])
  by_cases cF1 : b0 ≤ 243
  · have E := hd.trans (Lib.slow_F1 (s.size - i) b0 b1 b2 b3 hn z1 z2 z3 (by omega)).symm
    unfold Lib.slowN at E
    by_cases m0 : s.size < i + 4
    · exact wrap (F1_short s i w b0 hm hi m0 h0 (by omega) (by omega)) (by rw [E, if_pos (by omega)])
    by_cases m1 : b1 < 128 ∨ 191 < b1
    · exact wrap (F1_bad1 s i w b0 b1 hm (by omega) h0 (by omega) (by omega) h1 z1  m1) (by rw [E, if_neg (by omega), if_pos m1])
    by_cases m2 : b2 < 128 ∨ 191 < b2
    · exact wrap (F1_bad2 s i w b0 b1 b2 hm (by omega) h0 (by omega) (by omega) h1 z1 h2 z2 (by omega) (by omega) m2) (by rw [E, if_neg (by omega), if_neg m1, if_neg (by omega), if_pos m2])
    by_cases m3 : b3 < 128 ∨ 191 < b3
    · exact wrap (F1_bad3 s i w b0 b1 b2 b3 hm (by omega) h0 (by omega) (by omega) h1 z1 h2 z2 h3 z3 (by omega) (by omega) (by omega) (by omega) m3) (by rw [E, if_neg (by omega), if_neg m1, if_neg (by omega), if_neg m2, if_neg (by omega), if_pos m3])
    exact wrap (F1_ok s i w b0 b1 b2 b3 hm (by omega) h0 (by omega) (by omega) h1 (by omega) (by omega) h2 (by omega) (by omega) h3 (by omega) (by omega)) (by rw [E, if_neg (by omega), if_neg m1, if_neg (by omega), if_neg m2, if_neg (by omega), if_neg m3])
  have cF4 : b0 = 244 := by omega
  have E := hd.trans (Lib.slow_F4 (s.size - i) b0 b1 b2 b3 hn z1 z2 z3 (by omega)).symm
  unfold Lib.slowN at E
  by_cases m0 : s.size < i + 4
  · exact wrap (F4_short s i w b0 hm hi m0 h0 (by omega) (by omega)) (by rw [E, if_pos (by omega)])
  by_cases m1 : b1 < 128 ∨ 143 < b1
  · exact wrap (F4_bad1 s i w b0 b1 hm (by omega) h0 (by omega) (by omega) h1 z1  m1) (by rw [E, if_neg (by omega), if_pos m1])
  by_cases m2 : b2 < 128 ∨ 191 < b2
  · exact wrap (F4_bad2 s i w b0 b1 b2 hm (by omega) h0 (by omega) (by omega) h1 z1 h2 z2 (by omega) (by omega) m2) (by rw [E, if_neg (by omega), if_neg m1, if_neg (by omega), if_pos m2])
  by_cases m3 : b3 < 128 ∨ 191 < b3
  · exact wrap (F4_bad3 s i w b0 b1 b2 b3 hm (by omega) h0 (by omega) (by omega) h1 z1 h2 z2 h3 z3 (by omega) (by omega) (by omega) (by omega) m3) (by rw [E, if_neg (by omega), if_neg m1, if_neg (by omega), if_neg m2, if_neg (by omega), if_pos m3])
  exact wrap (F4_ok s i w b0 b1 b2 b3 hm (by omega) h0 (by omega) (by omega) h1 (by omega) (by omega) h2 (by omega) (by omega) h3 (by omega) (by omega)) (by rw [E, if_neg (by omega), if_neg m1, if_neg (by omega), if_neg m2, if_neg (by omega), if_neg m3])
end Go.Proofs.YtkepmnenafggjaaFmt.Dec
