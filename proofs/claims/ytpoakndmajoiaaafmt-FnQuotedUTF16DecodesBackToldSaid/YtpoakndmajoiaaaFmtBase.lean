/- Plain lemmas that the walks of this seat share (no program in them): endings, bytes of a string, lists. No condition. -/
import Derived.WalkKit
import Derived.Lib.Strings
import Derived.Lib.Hide
import Derived.Deep.Draws
namespace Go.Proofs.YtpoakndmajoiaaaFmt.Base
open Go.RowKit
theorem ret_bool {a b : Bool} (h : a = b) : Ending.returned (.bool a) = .returned (.bool b) := by rw [h]
theorem ret_int {k : IntKind} {a b : Int} (h : a = b) : Ending.returned (.int k a) = .returned (.int k b) := by rw [h]
theorem ret_string {a b : ByteArray} (h : a = b) : Ending.returned (.string a) = .returned (.string b) := by rw [h]
theorem u8_eq (u : UInt8) (n : Nat) (h : n < 256) : (u.toNat : Int) = n ↔ u = UInt8.ofNat n := by
  rw [← UInt8.toNat_inj, UInt8.toNat_ofNat']; omega
theorem u8_of (n : Int) (h0 : 0 ≤ n) (h1 : n ≤ 255) : ∃ u : UInt8, n = (u.toNat : Int) := ⟨UInt8.ofNat n.toNat, by simp [UInt8.toNat_ofNat']; omega⟩
theorem get_list (s : ByteArray) (k : Nat) (h : k < s.size) : s.data.toList[k]'(by simpa using h) = s[k] := rfl
theorem get_list? (s : ByteArray) (k : Nat) (h : k < s.size) : s.data.toList[k]? = some s[k] := by
  rw [List.getElem?_eq_getElem (by simpa using h)]; rfl
theorem len_list (s : ByteArray) : s.data.toList.length = s.size := by simp
theorem ext_list {a b : ByteArray} (h : a.data.toList = b.data.toList) : a = b := by
  cases a; cases b; simp at h; simp [h]
theorem list_append (a b : ByteArray) : (a ++ b).data.toList = a.data.toList ++ b.data.toList := by
  rw [ByteArray.data_append]; simp
theorem eq_toList (a b : ByteArray) : (a.toList == b.toList) = decide (a = b) := by
  rw [Lib.toList_data, Lib.toList_data, Bool.eq_iff_iff, beq_iff_eq, decide_eq_true_eq]
  exact ⟨ext_list, fun h => by rw [h]⟩
theorem bcell {W w1 : World} {B : Nat} (hb : Below B W w1) {b : Nat} (h : b < B) (o : Nat) : w1.cell? ⟨b, o, none⟩ = W.cell? ⟨b, o, none⟩ := hb.cell (p := ⟨b, o, none⟩) h
theorem bfrozen {W w1 : World} {B : Nat} (hb : Below B W w1) {b : Nat} (h : b < B) (o : Nat) : w1.frozen? ⟨b, o, none⟩ = W.frozen? ⟨b, o, none⟩ := hb.frozen (p := ⟨b, o, none⟩) h
theorem below_draws {B : Nat} {a w : World} (h : Below B a w) (n : Nat) : Below B a (w.drewN n) := ⟨h.os, h.tape, h.output, h.size, h.block⟩
/-- A call that turned nothing below the blocks as they stood, behind one that turned nothing below B. -/
theorem below_join {B : Nat} {a w w' : World} (h : Below B a w) (hB : B ≤ w.heap.size) (h' : Below w.heap.size w w') : Below B a w' := h.trans (h'.mono hB)
/-- What the walk is told of a slice of integers that came in: it is nil; or it leads to a row of 'cap' cells, the numbers 'zs'. -/
def IsRow (k : IntKind) (w : World) (a : Option Addr) (len cap : Nat) (zs : List Int) : Prop :=
  (a = none ∧ len = 0 ∧ cap = 0 ∧ zs = []) ∨
  ∃ x, a = some x ∧ len ≤ cap ∧ cap ≤ maxLen ∧ zs.length = cap ∧ (∀ i, i < zs.length → w.cell? (x.add i) = some (.int k (zs.getD i 0))) ∧ ∀ n ∈ zs, (Lit.int k n).wf = true
/-- The same of a slice of strings. -/
def IsStrs (w : World) (a : Option Addr) (len cap : Nat) (zs : List ByteArray) : Prop :=
  (a = none ∧ len = 0 ∧ cap = 0 ∧ zs = []) ∨
  ∃ x, a = some x ∧ len ≤ cap ∧ cap ≤ maxLen ∧ zs.length = cap ∧ (∀ i, i < zs.length → w.cell? (x.add i) = some (.string (zs.getD i ByteArray.empty))) ∧ ∀ s ∈ zs, s.size ≤ maxLen
end Go.Proofs.YtpoakndmajoiaaaFmt.Base
