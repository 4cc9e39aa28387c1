/- The plain law: the text that fmt's '%q' gives of an ASCII string is the table's text within quotes. No program's walk in it. -/
import Derived.Test.YtdejboelpcnigaaFmtQb
import Derived.Stop.FmtQuoteTie
import Derived.Stop.FmtTextKit
import Derived.Stop.JoinedAt
import Derived.Stop.Texts
import Derived.Stop.JoinedTold
namespace Go.Proofs.YtdejboelpcnigaaFmt.Qc
open Go.Extern Go.Extern.Stop Go.Stop Go.Kit Go.Proofs.YtdejboelpcnigaaFmt.Base Go.Proofs.YtdejboelpcnigaaFmt.Qb Go.Proofs.YtdejboelpcnigaaFmt.Qa
set_option linter.unusedVariables false
theorem esc_fin : ∀ n : Fin 128, FmtText.escRune 34 false n.val = esc (UInt8.ofNat n.val) := by decide +kernel
theorem esc_eq (c : UInt8) (h : c.toNat < 128) : FmtText.escRune 34 false c.toNat = esc c := by
  have := esc_fin ⟨c.toNat, h⟩
  simpa using this
theorem decode_low (s : ByteArray) (pos : Nat) (hp : pos < s.size) (h : (s[pos]).toNat < 128) : Utf8.decode s pos = (s[pos].toNat, 1) := by
  have e : s.get! (pos + 0) = s[pos] := by
    have : pos < s.data.size := hp
    simp [ByteArray.get!, Array.getElem!_eq_getD, Array.getD]
    rw [dif_pos hp]; rfl
  unfold Utf8.decode
  simp only [e]
  rw [if_pos h]
theorem quote_from (s : ByteArray) (hA : ∀ c ∈ s.data.toList, c.toNat < 128) : ∀ fuel pos, s.size - pos ≤ fuel → FmtText.quoteFrom 34 false s fuel pos = (s.data.toList.drop pos).flatMap esc
  | 0, pos, h => by
    rw [List.drop_eq_nil_of_le (by rw [len_list]; omega)]; rfl
  | fuel + 1, pos, h => by
    unfold FmtText.quoteFrom
    by_cases hp : pos < s.size
    · have hl : pos < s.data.toList.length := by rw [len_list]; exact hp
      have hc : (s[pos]).toNat < 128 := hA _ (by rw [← get_list s pos hp]; exact List.getElem_mem hl)
      rw [if_pos hp, decode_low s pos hp hc, List.drop_eq_getElem_cons hl, List.flatMap_cons, quote_from s hA fuel (pos + 1) (by omega)]
      have e : ((s[pos].toNat, 1).2 == 1 && (s[pos].toNat, 1).1 == 65533) = false := by
        have : (s[pos].toNat == 65533) = false := by rw [beq_eq_false_iff_ne]; omega
        simp [this]
      rw [e, get_list s pos hp]
      simp only [Bool.false_eq_true, if_false]
      rw [esc_eq _ hc]
    · rw [if_neg hp, List.drop_eq_nil_of_le (by rw [len_list]; omega)]; rfl
theorem quote_ascii (s : ByteArray) (hA : ∀ c ∈ s.data.toList, c.toNat < 128) : FmtText.quote false s.data.toList = run s.data.toList s.size ++ [34] := by
  have e : FmtText.arr s.data.toList = s := ext_list (by simp [FmtText.arr])
  unfold FmtText.quote run
  rw [e, quote_from s hA _ 0 (by rw [len_list]; omega), List.drop_zero, List.take_of_length_le (by rw [len_list]; omega)]
  rfl
theorem t_parse : (FmtText.parse [37, 113]).map FmtText.glue = some [.verb {} 113] := by rfl
theorem text_q (s : ByteArray) (hs : s.size ≤ 1048576) : FmtText.text "fmt.Sprintf" (reading s) = some (FmtText.quote false s.data.toList) := by
  rw [reading, FmtText.text_sprintf_glued t_parse (FmtText.operands_cons (FmtText.operand_str_at (sh := shape9) (n := [6, 0, 0, 0, 0, 0, 0, 0, 115, 116, 114, 105, 110, 103]) (name := [115, 116, 114, 105, 110, 103]) rfl (by decide) s.data.toList (by rw [len_list]; omega)) FmtText.operands_nil)]
  simp [FmtText.render, FmtText.printArg_q_str]
/-- What a told reading answers to quoteOrNullIfEmpty's question, at an ASCII text. -/
theorem told_ascii (F : Interp) (s : ByteArray) (hs : s.size ≤ 1048576) (hA : ∀ c ∈ s.data.toList, c.toNat < 128) :
    FmtStop.textOf (F.told "fmt.Sprintf" (reading s) 0) = ⟨(run s.data.toList s.size ++ [34]).toArray⟩ := by
  apply ext_list
  rw [textOf_list, told_string F (text_q s hs) (by have := FmtText.quote_length_le s.data.toList; rw [len_list] at this; omega), quote_ascii s hA]
end Go.Proofs.YtdejboelpcnigaaFmt.Qc
