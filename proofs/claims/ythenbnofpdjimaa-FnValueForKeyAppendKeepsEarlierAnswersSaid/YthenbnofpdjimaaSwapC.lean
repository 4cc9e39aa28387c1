/- The model zzSameSlot at entries that are alike. Conditions: the place is below the length. -/
import Derived.Test.YthenbnofpdjimaaSwapB
import Derived.Deep.DrawnRows
namespace Go.Proofs.Ythenbnofpdjimaa.Swap
open Go.ChangeShapes Go.WideShapes Go.ChangeAt Go.RowKit Go.Deep Go.Proofs.Ythenbnofpdjimaa.Base Go.Proofs.Ythenbnofpdjimaa.Itoa Go.Proofs.Ythenbnofpdjimaa.Keyed
set_option linter.unusedVariables false
attribute [local go_sem ↓] Go.wp_at_zero Go.wp_at_succ
theorem key_any (K V : ByteArray) (w : World) : Calls Try.prog 27 #[.agg #[.string K, .string V, .slice none 0 0, .slice none 0 0, .slice none 0 0, .int .i32 0, .int .i32 0, .int .u8 1, .int .i32 0, .int .i32 0]] w fun e w' => e = .returned (.string K) ∧ Below w.heap.size w w' := by
  go_enter Try.func27, Try.ntmps27
  go_wp2
  go_ret
  exact ⟨rfl, (Below.refl _ _).alloc (Nat.le_refl _) _⟩
theorem value_any (K V : ByteArray) (w : World) : Calls Try.prog 28 #[.agg #[.string K, .string V, .slice none 0 0, .slice none 0 0, .slice none 0 0, .int .i32 0, .int .i32 0, .int .u8 1, .int .i32 0, .int .i32 0]] w fun e w' => e = .returned (.agg #[.string V, .slice none 0 0, .slice none 0 0, .slice none 0 0, .int .i32 0, .int .i32 0, .int .u8 1]) ∧ Below w.heap.size w w' := by
  go_enter Try.func28, Try.ntmps28
  go_wp2
  go_returns
  exact ⟨rfl, by go_grown⟩
theorem str_any (V : ByteArray) (w : World) : Calls Try.prog 19 #[.agg #[.string V, .slice none 0 0, .slice none 0 0, .slice none 0 0, .int .i32 0, .int .i32 0, .int .u8 1]] w fun e w' => e = .returned (.string V) ∧ Below w.heap.size w w' := by
  go_enter Try.func19, Try.ntmps19
  go_wp2
  go_ret
  exact ⟨rfl, (Below.refl _ _).alloc (Nat.le_refl _) _⟩
/-- What a call that only makes memory leaves. -/
def Made (w w' : World) : Prop := Below w.heap.size w w'
set_option maxHeartbeats 4000000 in
theorem same_any (A B len k : Nat) (K V : ByteArray) (w : World) (hk : k < len) (hl : len ≤ 65536) (hA : A < w.heap.size) (hB : B < w.heap.size)
    (a0 : w.cell? ⟨A, k * 10, none⟩ = some (.string K)) (a1 : w.cell? ⟨A, k * 10 + 1, none⟩ = some (.string V)) (a2 : w.cell? ⟨A, k * 10 + 2, none⟩ = some (.slice none 0 0)) (a3 : w.cell? ⟨A, k * 10 + 3, none⟩ = some (.slice none 0 0)) (a4 : w.cell? ⟨A, k * 10 + 4, none⟩ = some (.slice none 0 0)) (a5 : w.cell? ⟨A, k * 10 + 5, none⟩ = some (.int .i32 0)) (a6 : w.cell? ⟨A, k * 10 + 6, none⟩ = some (.int .i32 0)) (a7 : w.cell? ⟨A, k * 10 + 7, none⟩ = some (.int .u8 1)) (a8 : w.cell? ⟨A, k * 10 + 8, none⟩ = some (.int .i32 0)) (a9 : w.cell? ⟨A, k * 10 + 9, none⟩ = some (.int .i32 0))
    (b0 : w.cell? ⟨B, k * 10, none⟩ = some (.string K)) (b1 : w.cell? ⟨B, k * 10 + 1, none⟩ = some (.string V)) (b2 : w.cell? ⟨B, k * 10 + 2, none⟩ = some (.slice none 0 0)) (b3 : w.cell? ⟨B, k * 10 + 3, none⟩ = some (.slice none 0 0)) (b4 : w.cell? ⟨B, k * 10 + 4, none⟩ = some (.slice none 0 0)) (b5 : w.cell? ⟨B, k * 10 + 5, none⟩ = some (.int .i32 0)) (b6 : w.cell? ⟨B, k * 10 + 6, none⟩ = some (.int .i32 0)) (b7 : w.cell? ⟨B, k * 10 + 7, none⟩ = some (.int .u8 1)) (b8 : w.cell? ⟨B, k * 10 + 8, none⟩ = some (.int .i32 0)) (b9 : w.cell? ⟨B, k * 10 + 9, none⟩ = some (.int .i32 0)) :
    Calls Try.prog 13 #[.slice (some ⟨A, 0, none⟩) len len, .slice (some ⟨B, 0, none⟩) len len, .int .i64 k] w fun e w' => e = .returned (.bool true) ∧ Below w.heap.size w w' := by
  have x1 : (0 : Int) ≤ (k : Int) := by omega
  have x2 : (k : Int) < (len : Int) := by omega
  have q1 : (K.toList == K.toList) = true := by simp
  have q2 : (V.toList == V.toList) = true := by simp
  have acc : Below w.heap.size w w.drew := (Below.refl _ _).drew
  go_enter Try.func13, Try.ntmps13
  go_wp2
  go_region_held3 (fun w' => w'.cell? ⟨A, k * 10, none⟩ = some (.string K) ∧ w'.cell? ⟨A, k * 10 + 1, none⟩ = some (.string V) ∧ w'.cell? ⟨A, k * 10 + 2, none⟩ = some (.slice none 0 0) ∧ w'.cell? ⟨A, k * 10 + 3, none⟩ = some (.slice none 0 0) ∧ w'.cell? ⟨A, k * 10 + 4, none⟩ = some (.slice none 0 0) ∧ w'.cell? ⟨A, k * 10 + 5, none⟩ = some (.int .i32 0) ∧ w'.cell? ⟨A, k * 10 + 6, none⟩ = some (.int .i32 0) ∧ w'.cell? ⟨A, k * 10 + 7, none⟩ = some (.int .u8 1) ∧ w'.cell? ⟨A, k * 10 + 8, none⟩ = some (.int .i32 0) ∧ w'.cell? ⟨A, k * 10 + 9, none⟩ = some (.int .i32 0) ∧ w'.cell? ⟨B, k * 10, none⟩ = some (.string K) ∧ w'.cell? ⟨B, k * 10 + 1, none⟩ = some (.string V) ∧ w'.cell? ⟨B, k * 10 + 2, none⟩ = some (.slice none 0 0) ∧ w'.cell? ⟨B, k * 10 + 3, none⟩ = some (.slice none 0 0) ∧ w'.cell? ⟨B, k * 10 + 4, none⟩ = some (.slice none 0 0) ∧ w'.cell? ⟨B, k * 10 + 5, none⟩ = some (.int .i32 0) ∧ w'.cell? ⟨B, k * 10 + 6, none⟩ = some (.int .i32 0) ∧ w'.cell? ⟨B, k * 10 + 7, none⟩ = some (.int .u8 1) ∧ w'.cell? ⟨B, k * 10 + 8, none⟩ = some (.int .i32 0) ∧ w'.cell? ⟨B, k * 10 + 9, none⟩ = some (.int .i32 0))
    (first | go_keep | (go_split_ands; refine ⟨?_, ?_, ?_, ?_, ?_, ?_, ?_, ?_, ?_, ?_, ?_, ?_, ?_, ?_, ?_, ?_, ?_, ?_, ?_, ?_⟩ <;> (rw [bcell acc (by assumption)]; assumption)))
    ((first | (go_at_call 27; refine (key_any _ _ _).mono ?_; rintro e w1 ⟨rfl, hb1⟩; have acc := below_join acc acc.size hb1; clear hb1) | (go_at_call 28; refine (value_any _ _ _).mono ?_; rintro e w2 ⟨rfl, hb2⟩; have acc := below_join acc acc.size hb2; clear hb2) | (go_at_call 19; refine (str_any _ _).mono ?_; rintro e w3 ⟨rfl, hb3⟩; have acc := below_join acc acc.size hb3; clear hb3)))
  have ACC := Lib.hid acc
  clear acc
  go_wp2
  go_ret
  exact ⟨rfl, ACC.out⟩
set_option maxHeartbeats 4000000 in
theorem slot_any (A b o len cap k : Nat) (K : ByteArray) (w : World) (hk : k < len) (hl : len ≤ 65536) (hA : A < w.heap.size) (hb : b < w.heap.size)
    (a0 : w.cell? ⟨A, k * 10, none⟩ = some (.string K)) (a1 : w.cell? ⟨A, k * 10 + 1, none⟩ = some (.string (itoa k))) (a2 : w.cell? ⟨A, k * 10 + 2, none⟩ = some (.slice none 0 0)) (a3 : w.cell? ⟨A, k * 10 + 3, none⟩ = some (.slice none 0 0)) (a4 : w.cell? ⟨A, k * 10 + 4, none⟩ = some (.slice none 0 0)) (a5 : w.cell? ⟨A, k * 10 + 5, none⟩ = some (.int .i32 0)) (a6 : w.cell? ⟨A, k * 10 + 6, none⟩ = some (.int .i32 0)) (a7 : w.cell? ⟨A, k * 10 + 7, none⟩ = some (.int .u8 1)) (a8 : w.cell? ⟨A, k * 10 + 8, none⟩ = some (.int .i32 0)) (a9 : w.cell? ⟨A, k * 10 + 9, none⟩ = some (.int .i32 0)) (ck : w.cell? ⟨b, o + k, none⟩ = some (.string K)) :
    Calls Try.prog 14 #[.slice (some ⟨A, 0, none⟩) len len, .int .i64 k, .slice (some ⟨b, o, none⟩) len cap, .int .i64 k] w fun e w' => e = .returned (.bool true) ∧ Below w.heap.size w w' := by
  have x1 : (0 : Int) ≤ (k : Int) := by omega
  have x2 : (k : Int) < (len : Int) := by omega
  have q1 : (K.toList == K.toList) = true := by simp
  have q2 : ((itoa k).toList == (itoa k).toList) = true := by simp
  have acc : Below w.heap.size w w.drew := (Below.refl _ _).drew
  go_enter Try.func14, Try.ntmps14
  go_wp2
  go_region_held3 (fun w' => w'.cell? ⟨A, k * 10, none⟩ = some (.string K) ∧ w'.cell? ⟨A, k * 10 + 1, none⟩ = some (.string (itoa k)) ∧ w'.cell? ⟨A, k * 10 + 2, none⟩ = some (.slice none 0 0) ∧ w'.cell? ⟨A, k * 10 + 3, none⟩ = some (.slice none 0 0) ∧ w'.cell? ⟨A, k * 10 + 4, none⟩ = some (.slice none 0 0) ∧ w'.cell? ⟨A, k * 10 + 5, none⟩ = some (.int .i32 0) ∧ w'.cell? ⟨A, k * 10 + 6, none⟩ = some (.int .i32 0) ∧ w'.cell? ⟨A, k * 10 + 7, none⟩ = some (.int .u8 1) ∧ w'.cell? ⟨A, k * 10 + 8, none⟩ = some (.int .i32 0) ∧ w'.cell? ⟨A, k * 10 + 9, none⟩ = some (.int .i32 0) ∧ w'.cell? ⟨b, o + k, none⟩ = some (.string K))
    (first | go_keep | (go_split_ands; refine ⟨?_, ?_, ?_, ?_, ?_, ?_, ?_, ?_, ?_, ?_, ?_⟩ <;> (rw [bcell acc (by assumption)]; assumption)))
    ((first | (go_at_call 27; refine (key_any _ _ _).mono ?_; rintro e w1 ⟨rfl, hb1⟩; have acc := below_join acc acc.size hb1; clear hb1) | (go_at_call 28; refine (value_any _ _ _).mono ?_; rintro e w2 ⟨rfl, hb2⟩; have acc := below_join acc acc.size hb2; clear hb2) | (go_at_call 19; refine (str_any _ _).mono ?_; rintro e w3 ⟨rfl, hb3⟩; have acc := below_join acc acc.size hb3; clear hb3) | (go_at_call 23; refine (itoa_any _ _ (by omega)).mono ?_; rintro e w4 ⟨rfl, hb4⟩; have acc := below_join acc acc.size hb4; clear hb4)))
  have ACC := Lib.hid acc
  clear acc
  go_wp2
  go_ret
  exact ⟨rfl, ACC.out⟩
end Go.Proofs.Ythenbnofpdjimaa.Swap
