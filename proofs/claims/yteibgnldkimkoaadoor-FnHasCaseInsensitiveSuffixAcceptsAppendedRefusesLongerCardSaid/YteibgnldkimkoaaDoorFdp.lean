/- Texts that differ by the case of ASCII letters alone: they decode alike. No program in it. -/
import Derived.Test.YteibgnldkimkoaaDoorBase
import Derived.WalkKit
namespace Go.Proofs.YteibgnldkimkoaaDoor.Fdp
open Go.RowKit Go.Proofs.YteibgnldkimkoaaDoor.Base
set_option linter.unusedVariables false
/-- The same byte, or an ASCII letter in two cases. -/
def fb (a b : Nat) : Prop := a = b ∨ (65 ≤ a ∧ a ≤ 90 ∧ b = a + 32) ∨ (65 ≤ b ∧ b ≤ 90 ∧ a = b + 32)
theorem fb_refl (a : Nat) : fb a a := .inl rfl
/-- The bytes behind the end read as 0. -/
def gb (s : ByteArray) (i : Nat) : Nat := (s.get! i).toNat
structure Fo (s t : ByteArray) : Prop where
  len : s.size = t.size
  at_ : ∀ i, fb (gb s i) (gb t i)
theorem gb_lt (s : ByteArray) (i : Nat) (h : i < s.size) : gb s i = s[i].toNat := by
  unfold gb
  rw [show s.get! i = s[i]'h from by cases s with | mk d => exact getElem!_pos d i h]
theorem gb_ge (s : ByteArray) (i : Nat) (h : s.size ≤ i) : gb s i = 0 := by
  unfold gb
  cases s with
  | mk d =>
    have h' : ¬ i < d.size := by
      have h2 : d.size ≤ i := h
      omega
    show (d[i]!).toNat = 0
    rw [getElem!_neg d i h']
    rfl
theorem fo_mk {s t : ByteArray} (h : s.size = t.size) (ha : ∀ i (hs : i < s.size) (ht : i < t.size), fb s[i].toNat t[i].toNat) : Fo s t := by
  refine ⟨h, fun i => ?_⟩
  by_cases hs : i < s.size
  · rw [gb_lt s i hs, gb_lt t i (by omega)]
    exact ha i hs (by omega)
  · rw [gb_ge s i (by omega), gb_ge t i (by omega)]
    exact .inl rfl
theorem Fo.refl (s : ByteArray) : Fo s s := ⟨rfl, fun _ => .inl rfl⟩
/-- One rune, of the four bytes and which of them may go on. -/
def dec4 (b0 b1 b2 b3 : Nat) (c1 c2 c3 : Bool) : Nat × Nat :=
  if b0 < 0x80 then (b0, 1)
  else if b0 / 32 == 6 && c1 then
    let c := (b0 % 32) * 64 + b1 % 64
    if c ≥ 0x80 then (c, 2) else (Utf8.runeError, 1)
  else if b0 / 16 == 14 && c1 && c2 then
    let c := (b0 % 16) * 4096 + (b1 % 64) * 64 + b2 % 64
    if c ≥ 0x800 && Utf8.valid c then (c, 3) else (Utf8.runeError, 1)
  else if b0 / 8 == 30 && c1 && c2 && c3 then
    let c := (b0 % 8) * 262144 + (b1 % 64) * 4096 + (b2 % 64) * 64 + b3 % 64
    if c ≥ 0x10000 && Utf8.valid c then (c, 4) else (Utf8.runeError, 1)
  else (Utf8.runeError, 1)
def cnt (s : ByteArray) (i k : Nat) : Bool := i + k < s.size && gb s (i + k) / 64 == 2
theorem dec_eq (s : ByteArray) (i : Nat) : Utf8.decode s i = dec4 (gb s i) (gb s (i + 1)) (gb s (i + 2)) (gb s (i + 3)) (cnt s i 1) (cnt s i 2) (cnt s i 3) := rfl
theorem dec4_same (b0 b1 b2 b3 d1 d2 d3 : Nat) (c1 c2 c3 : Bool) (h1 : c1 = true → b1 = d1) (h2 : c2 = true → b2 = d2) (h3 : c3 = true → b3 = d3) : dec4 b0 b1 b2 b3 c1 c2 c3 = dec4 b0 d1 d2 d3 c1 c2 c3 := by
  unfold dec4
  cases c1 with
  | false => simp
  | true =>
    rw [h1 rfl]
    cases c2 with
    | false => simp
    | true =>
      rw [h2 rfl]
      cases c3 with
      | false => simp
      | true => rw [h3 rfl]
theorem fb_high {a b : Nat} (h : fb a b) (ha : 123 ≤ a) : a = b := by
  rcases h with h | ⟨h1, h2, h3⟩ | ⟨h1, h2, h3⟩ <;> omega
theorem cnt_same {s t : ByteArray} (h : Fo s t) (i k : Nat) : cnt s i k = cnt t i k ∧ (cnt s i k = true → gb s (i + k) = gb t (i + k)) := by
  have hk := h.at_ (i + k)
  unfold cnt
  rw [h.len]
  rcases hk with e | ⟨h1, h2, h3⟩ | ⟨h1, h2, h3⟩
  · rw [e]; exact ⟨rfl, fun _ => rfl⟩
  · have e1 : (gb s (i + k) / 64 == 2) = false := by rw [beq_eq_false_iff_ne]; omega
    have e2 : (gb t (i + k) / 64 == 2) = false := by rw [beq_eq_false_iff_ne]; omega
    rw [e1, e2]; simp
  · have e1 : (gb s (i + k) / 64 == 2) = false := by rw [beq_eq_false_iff_ne]; omega
    have e2 : (gb t (i + k) / 64 == 2) = false := by rw [beq_eq_false_iff_ne]; omega
    rw [e1, e2]; simp
/-- Beside the first byte's case they decode alike. -/
theorem dec_same {s t : ByteArray} (h : Fo s t) (i : Nat) (h0 : 128 ≤ gb s i) : Utf8.decode s i = Utf8.decode t i := by
  rw [dec_eq, dec_eq, ← (cnt_same h i 1).1, ← (cnt_same h i 2).1, ← (cnt_same h i 3).1, ← fb_high (h.at_ i) (by omega)]
  exact dec4_same _ _ _ _ _ _ _ _ _ _ (cnt_same h i 1).2 (cnt_same h i 2).2 (cnt_same h i 3).2
theorem dec_low (s : ByteArray) (i : Nat) (h : gb s i < 128) : Utf8.decode s i = (gb s i, 1) := by
  rw [dec_eq]; unfold dec4; rw [if_pos h]
theorem gb_extract (s : ByteArray) (k i : Nat) : gb (s.extract k s.size) i = gb s (k + i) := by
  have hz : (s.extract k s.size).size = s.size - k := by rw [ByteArray.size_extract]; omega
  by_cases h : k + i < s.size
  · rw [gb_lt _ i (by omega), gb_lt s (k + i) h]
    congr 1
    simp [ByteArray.getElem_eq_getElem_data]
  · rw [gb_ge _ i (by omega), gb_ge s (k + i) (by omega)]
theorem cnt_extract (s : ByteArray) (k i j : Nat) : cnt (s.extract k s.size) i j = cnt s (k + i) j := by
  have hz : (s.extract k s.size).size = s.size - k := by rw [ByteArray.size_extract]; omega
  unfold cnt
  rw [gb_extract, hz, show k + (i + j) = k + i + j by omega]
  congr 1
  exact decide_eq_decide.2 (by omega)
theorem dec_extract (s : ByteArray) (k i : Nat) : Utf8.decode (s.extract k s.size) i = Utf8.decode s (k + i) := by
  rw [dec_eq, dec_eq, gb_extract, gb_extract, gb_extract, gb_extract, cnt_extract, cnt_extract, cnt_extract]
  rfl
theorem dec_pos (s : ByteArray) (i : Nat) : 1 ≤ (Utf8.decode s i).2 ∧ (Utf8.decode s i).2 ≤ 4 := by
  rw [dec_eq]
  unfold dec4
  simp only []
  repeat' split
  all_goals simp
theorem dec_le (s : ByteArray) (i : Nat) (h : i < s.size) : i + (Utf8.decode s i).2 ≤ s.size := by
  rw [dec_eq]
  unfold dec4
  simp only []
  repeat' split
  all_goals first
    | (simp only; omega)
    | (rename_i h1 h2 h3
       simp [cnt] at h2
       simp only
       omega)
    | skip
  all_goals (simp_all [cnt]; omega)
theorem dec_lt (s : ByteArray) (i : Nat) : (Utf8.decode s i).1 ≤ 1114111 := by
  rw [dec_eq]
  unfold dec4 Utf8.runeError
  simp only []
  repeat' split
  all_goals first
    | (simp only; omega)
    | (simp_all [Utf8.valid]; omega)
end Go.Proofs.YteibgnldkimkoaaDoor.Fdp
