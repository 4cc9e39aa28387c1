/- The escapes of an identifier as plain lists: one step of the decoding at a time; the hex digit and the escape by their contracts. Conditions: code points of at most 16 bits; lengths. -/
import Derived.Test.YtkepmnenafggjaaFmtByw
import Derived.Test.YtkepmnenafggjaaFmtDecJ
namespace Go.Proofs.YtkepmnenafggjaaFmt.Esc
open Go.RowKit Go.Deep Go.Proofs.YtkepmnenafggjaaFmt.Base Go.Proofs.YtkepmnenafggjaaFmt.Sls Go.Proofs.YtkepmnenafggjaaFmt.Byw Go.Proofs.YtkepmnenafggjaaFmt.Dec
set_option linter.unusedVariables false
def hx (i : Nat) : UInt8 := UInt8.ofNat (if i < 10 then 48 + i else 55 + i)
/-- One code point as it is printed. -/
def outc (c : Nat) : List UInt8 := if 32 ≤ c ∧ c ≤ 126 then [UInt8.ofNat c] else [92, 117, hx (c / 4096), hx (c / 256 % 16), hx (c / 16 % 16), hx (c % 16)]
theorem outc_len (c : Nat) : (outc c).length ≤ 6 := by unfold outc; split <;> simp
/-- Behind k code points: the place, and what has been printed. -/
def st (s : ByteArray) : Nat → Nat × List UInt8
  | 0 => (0, [])
  | k + 1 => if (st s k).1 < s.size then ((st s k).1 + (Utf8.decode s (st s k).1).2, (st s k).2 ++ outc (Utf8.decode s (st s k).1).1) else st s k
theorem st_step {s : ByteArray} {k : Nat} (h : (st s k).1 < s.size) : st s (k + 1) = ((st s k).1 + (Utf8.decode s (st s k).1).2, (st s k).2 ++ outc (Utf8.decode s (st s k).1).1) := by
  simp only [st]; rw [if_pos h]
theorem st_stay {s : ByteArray} {k : Nat} (h : ¬ (st s k).1 < s.size) : st s (k + 1) = st s k := by
  simp only [st]; rw [if_neg h]
theorem decode_width (s : ByteArray) (p : Nat) (h : p < s.size) : 1 ≤ (Utf8.decode s p).2 ∧ p + (Utf8.decode s p).2 ≤ s.size := by
  simp only [Utf8.decode]
  repeat' split
  all_goals simp_all
  all_goals omega
theorem st_le (s : ByteArray) : ∀ k, (st s k).1 ≤ s.size
  | 0 => by simp [st]
  | k + 1 => by
    by_cases h : (st s k).1 < s.size
    · rw [st_step h]; exact (decode_width s _ h).2
    · rw [st_stay h]; exact st_le s k
theorem st_ge (s : ByteArray) : ∀ k, min k s.size ≤ (st s k).1
  | 0 => by simp
  | k + 1 => by
    have ih := st_ge s k
    by_cases h : (st s k).1 < s.size
    · rw [st_step h]; have := (decode_width s _ h).1; simp only; omega
    · rw [st_stay h]; omega
theorem st_end {s : ByteArray} {k : Nat} (h : ¬ (st s k).1 < s.size) : ∀ j, st s (k + j) = st s k
  | 0 => rfl
  | j + 1 => by
    have e := st_end h j
    rw [← Nat.add_assoc, st_stay (by rw [e]; exact h), e]
/-- The whole name as it is printed. -/
def esc (s : ByteArray) : List UInt8 := (st s s.size).2
theorem esc_of {s : ByteArray} {k : Nat} (h : ¬ (st s k).1 < s.size) : (st s k).2 = esc s := by
  unfold esc
  have hg : ¬ (st s s.size).1 < s.size := by have := st_ge s s.size; omega
  rcases Nat.le_total k s.size with hk | hk
  · obtain ⟨j, hj⟩ := Nat.exists_eq_add_of_le hk
    have := st_end h j
    rw [← hj] at this; rw [this]
  · obtain ⟨j, hj⟩ := Nat.exists_eq_add_of_le hk
    have := st_end hg j
    rw [← hj] at this; rw [this]
theorem st_len (s : ByteArray) : ∀ k, (st s k).2.length ≤ 6 * (st s k).1
  | 0 => by simp [st]
  | k + 1 => by
    have ih := st_len s k
    by_cases h : (st s k).1 < s.size
    · rw [st_step h]
      have := (decode_width s _ h).1
      have := outc_len (Utf8.decode s (st s k).1).1
      rw [List.length_append]; simp only; omega
    · rw [st_stay h]; exact ih
/-- No code point of more than 16 bits. -/
def Bmp (s : ByteArray) : Prop := ∀ k, (st s k).1 < s.size → (Utf8.decode s (st s k).1).1 ≤ 65535
/-- A printable ASCII character is one byte. -/
theorem ascii_one (s : ByteArray) (p : Nat) (h : p < s.size) (hc : (Utf8.decode s p).1 ≤ 126) : (Utf8.decode s p).2 = 1 ∧ (Utf8.decode s p).1 = (s[p]).toNat := by
  by_cases ha : (s[p]).toNat < 128
  · rw [decode_ascii s p h ha]; exact ⟨rfl, rfl⟩
  · have := (decode_high s p h (by omega)).1; omega
theorem hex15 (d : Nat) (w : World) (h : d < 16) : Calls Tryf.prog 15 #[.int .i32 d] w fun e w' => e = .returned (.int .u8 ((hx d).toNat : Int)) ∧ w = w' := by
  by_cases h1 : d < 10
  · have e : (hx d).toNat = 48 + d := by unfold hx; rw [if_pos h1, UInt8.toNat_ofNat']; omega
    have E := Lib.hid e
    clear e
    go_enter Tryf.func15, Tryf.ntmps15
    go_wp2
    go_ret
    exact ⟨ret_int (by rw [E.out]; omega), rfl⟩
  · have e : (hx d).toNat = 55 + d := by unfold hx; rw [if_neg h1, UInt8.toNat_ofNat']; omega
    have E := Lib.hid e
    clear e
    go_enter Tryf.func15, Tryf.ntmps15
    go_wp2
    go_ret
    exact ⟨ret_int (by rw [E.out]; omega), rfl⟩
end Go.Proofs.YtkepmnenafggjaaFmt.Esc
