/- The debug logs by their contracts: a new log, its indent made longer and shorter, its indent and notes read; and the model allSpaces. Conditions: lengths that fit an int. -/
import Derived.Test.YtcblldmnhnelaaaRows
import Derived.Test.YtcblldmnhnelaaaBase
import Derived.WalkKit
import Derived.ProofKit
import Derived.OpenShut
import Derived.ShutString
import Derived.WalkLawsBesides
import Derived.WalkSpells
import Derived.Handy
import Derived.Outline
import Derived.Deep.OwnRows
namespace Go.Proofs.Ytcblldmnhnelaaa.Logs
open Go.ChangeShapes Go.WideShapes Go.ChangeAt Go.RowKit Go.Deep Go.Proofs.Ytcblldmnhnelaaa.Base
set_option linter.unusedVariables false

/-! ### PLAIN -/
def sp (k : Nat) : ByteArray := ⟨(List.replicate k (32 : UInt8)).toArray⟩
theorem sp_list (k : Nat) : (sp k).data.toList = List.replicate k 32 := by simp [sp]
theorem sp_size (k : Nat) : (sp k).size = k := by rw [← len_list, sp_list, List.length_replicate]
theorem sp_more (k : Nat) : sp k ++ ({ data := #[32, 32] } : ByteArray) = sp (k + 2) := by
  apply ext_list; rw [list_append, sp_list, sp_list]
  show _ ++ List.replicate 2 (32 : UInt8) = _
  rw [List.replicate_append_replicate]
theorem sp_less (k n : Nat) (h : n = k + 2) : (sp n).extract 2 n = sp k := by
  subst h
  apply ext_list; rw [Lib.extract_data, sp_list, sp_list, List.drop_replicate, List.take_replicate]
  congr 1; omega
/-- The cells of a log. -/
def dl (what ind : ByteArray) (notes : Value) : Nat → Value
  | 0 => .string what
  | 1 => .string ind
  | _ => notes
theorem dl_set (what ind ind' : ByteArray) (notes : Value) (i : Nat) : (if i = 1 then Value.string ind' else dl what ind notes i) = dl what ind' notes i := by
  match i with
  | 0 => rfl
  | 1 => rfl
  | _ + 2 => simp [dl]

/-! ### THE PROGRAM's FUNCTIONS -/
theorem new_any (what : ByteArray) (w : World) :
    Calls Try.prog 10 #[.string what] w fun e w' => e = .returned (.pointer (some ⟨w.heap.size, 0, none⟩)) ∧ w' = w.alloc (.cells #[.string what, .string { data := #[] }, .slice none 0 0] 43) := by
  go_enter Try.func10, Try.ntmps10
  go_wp2
  go_ret
  exact ⟨rfl, rfl⟩
theorem new_row (what : ByteArray) (w : World) : (w.alloc (.cells #[.string what, .string { data := #[] }, .slice none 0 0] 43)).rowIs w.heap.size 43 3 (dl what { data := #[] } (.slice none 0 0)) :=
  World.rowIs_alloc w #[.string what, .string { data := #[] }, .slice none 0 0] 43 _ (fun i hi => by
    match i, hi with
    | 0, _ => rfl
    | 1, _ => rfl
    | 2, _ => rfl)
theorem inc_any (B : Nat) (what ind : ByteArray) (notes : Value) (w : World) (hr : w.rowIs B 43 3 (dl what ind notes)) (hz : ind.size ≤ 16777216) :
    Calls Try.prog 12 #[.pointer (some ⟨B, 0, none⟩)] w fun e w' => e = .returned (.tuple #[]) ∧ w' = w.setCell ⟨B, 1, none⟩ (.string (ind ++ ({ data := #[32, 32] } : ByteArray))) := by
  have c1 : w.cell? ⟨B, 1, none⟩ = some (.string ind) := hr.cell (i := 1) (by omega)
  have f1 : w.frozen? ⟨B, 1, none⟩ = false := hr.frozen 1
  clear hr
  go_enter Try.func12, Try.ntmps12
  go_wp2_with (go_at_call 18; go_in)
  go_end0
  exact ⟨rfl, rfl⟩
theorem dec_any (B : Nat) (what ind : ByteArray) (notes : Value) (w : World) (hr : w.rowIs B 43 3 (dl what ind notes)) (h2 : 2 ≤ ind.size) (hz : ind.size ≤ 16777216) :
    Calls Try.prog 13 #[.pointer (some ⟨B, 0, none⟩)] w fun e w' => e = .returned (.tuple #[]) ∧ w' = w.setCell ⟨B, 1, none⟩ (.string (ind.extract 2 ind.size)) := by
  have c1 : w.cell? ⟨B, 1, none⟩ = some (.string ind) := hr.cell (i := 1) (by omega)
  have f1 : w.frozen? ⟨B, 1, none⟩ = false := hr.frozen 1
  clear hr
  go_enter Try.func13, Try.ntmps13
  go_wp2_with (go_at_call 19; go_in)
  go_end0
  exact ⟨rfl, rfl⟩
theorem indent_any (B : Nat) (what ind : ByteArray) (notes : Value) (w : World) (hr : w.rowIs B 43 3 (dl what ind notes)) :
    Calls Try.prog 14 #[.pointer (some ⟨B, 0, none⟩)] w fun e w' => e = .returned (.string ind) ∧ w = w' := by
  have c1 : w.cell? ⟨B, 1, none⟩ = some (.string ind) := hr.cell (i := 1) (by omega)
  clear hr
  go_enter Try.func14, Try.ntmps14
  go_wp2
  go_ret
  exact ⟨rfl, rfl⟩
theorem notes_any (B : Nat) (what ind : ByteArray) (a : Option Addr) (l c : Nat) (w : World) (hr : w.rowIs B 43 3 (dl what ind (.slice a l c))) :
    Calls Try.prog 16 #[.pointer (some ⟨B, 0, none⟩)] w fun e w' => e = .returned (.slice a l c) ∧ w = w' := by
  have c1 : w.cell? ⟨B, 2, none⟩ = some (.slice a l c) := hr.cell (i := 2) (by omega)
  clear hr
  go_enter Try.func16, Try.ntmps16
  go_wp2
  go_ret
  exact ⟨rfl, rfl⟩

/-! ### THE MODEL -/
theorem spaces_any (s : ByteArray) (w : World) (hs : s.size ≤ 16777216) (h : ∀ c ∈ s.data.toList, c = 32) : Calls Try.prog 15 #[.string s] w fun e w' => e = .returned (.bool true) ∧ w = w' := by
  have H := Lib.hid h; clear h
  go_enter Try.func15, Try.ntmps15
  go_wp2
  go_loop [3] (fun i => ∃ k : Nat, k ≤ s.size ∧ i = .int .i64 k) (fun i => s.size - (intOf i).toNat)
  case atStart => exact ⟨0, by omega, rfl⟩
  case round =>
    obtain ⟨k, hk, rfl⟩ := hrel
    by_cases hlt : k < s.size
    · have hc : ((s[k].toNat : Int) != 32) = false := by
        rw [H.out _ (List.mem_of_getElem? (get_list? s k hlt))]; rfl
      go_wp2
      go_round
      case rel => exact ⟨k + 1, by omega, by go_num⟩
      case measure => simp [intOf]; omega
    · go_wp2
      go_ret
      exact ⟨rfl, rfl⟩
theorem sp_spaces (k : Nat) : ∀ c ∈ (sp k).data.toList, c = 32 := by rw [sp_list]; intro c hc; exact List.eq_of_mem_replicate hc
end Go.Proofs.Ytcblldmnhnelaaa.Logs
