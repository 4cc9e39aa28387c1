/- Swap as a row: the entries at i and j change places. Conditions: i and j are below the length. -/
import Derived.Test.YthenbnofpdjimaaSwapA
namespace Go.Proofs.Ythenbnofpdjimaa.Swap
open Go.ChangeShapes Go.WideShapes Go.ChangeAt Go.RowKit Go.Deep Go.Proofs.Ythenbnofpdjimaa.Base Go.Proofs.Ythenbnofpdjimaa.Itoa Go.Proofs.Ythenbnofpdjimaa.Keyed
set_option linter.unusedVariables false
def swp (i j : Nat) (f : Nat → Value) (k : Nat) : Value := if k / 10 = j then f (i * 10 + k % 10) else if k / 10 = i then f (j * 10 + k % 10) else f k
theorem ten_list (f : Nat → Value) (i r : Nat) (hr : r < 10) : [f (i * 10), f (i * 10 + 1), f (i * 10 + 2), f (i * 10 + 3), f (i * 10 + 4), f (i * 10 + 5), f (i * 10 + 6), f (i * 10 + 7), f (i * 10 + 8), f (i * 10 + 9)].getD r (.bool false) = f (i * 10 + r) := by
  rcases (show r = 0 ∨ r = 1 ∨ r = 2 ∨ r = 3 ∨ r = 4 ∨ r = 5 ∨ r = 6 ∨ r = 7 ∨ r = 8 ∨ r = 9 by omega) with rfl | rfl | rfl | rfl | rfl | rfl | rfl | rfl | rfl | rfl <;> rfl
theorem put_swp (f : Nat → Value) (i j k : Nat) : put10 j (f (i * 10)) (f (i * 10 + 1)) (f (i * 10 + 2)) (f (i * 10 + 3)) (f (i * 10 + 4)) (f (i * 10 + 5)) (f (i * 10 + 6)) (f (i * 10 + 7)) (f (i * 10 + 8)) (f (i * 10 + 9)) (put10 i (f (j * 10)) (f (j * 10 + 1)) (f (j * 10 + 2)) (f (j * 10 + 3)) (f (j * 10 + 4)) (f (j * 10 + 5)) (f (j * 10 + 6)) (f (j * 10 + 7)) (f (j * 10 + 8)) (f (j * 10 + 9)) f) k = swp i j f k := by
  have hk : k = k / 10 * 10 + k % 10 := by omega
  have hr : k % 10 < 10 := by omega
  unfold swp
  by_cases h : k / 10 = j
  · rw [if_pos h]
    conv => lhs; rw [hk, h]
    rw [put_in _ _ _ _ _ _ _ _ _ _ _ _ _ hr]
    exact ten_list f i _ hr
  · rw [if_neg h, put_out _ _ _ _ _ _ _ _ _ _ _ _ _ h]
    by_cases h2 : k / 10 = i
    · rw [if_pos h2]
      conv => lhs; rw [hk, h2]
      rw [put_in _ _ _ _ _ _ _ _ _ _ _ _ _ hr]
      exact ten_list f j _ hr
    · rw [if_neg h2, put_out _ _ _ _ _ _ _ _ _ _ _ _ _ h2]
/-- What Swap leaves. -/
def Swapped (B len : Nat) (G : Nat → Value) (w w' : World) : Prop := w'.rowIs B 49 (len * 10) G ∧ Below B w w' ∧ w'.heap.size = w.heap.size
theorem swap_any (B len i j : Nat) (f : Nat → Value) (w : World) (h : len ≤ 65536) (hi : i < len) (hj : j < len) (HR : w.rowIs B 49 (len * 10) f) (hone : ∀ k, (f k).oneCell' = true) :
    Calls Try.prog 26 #[.slice (some ⟨B, 0, none⟩) len len, .int .i64 i, .int .i64 j] w fun e w' => e = .returned (.tuple #[]) ∧ Swapped B len (swp i j f) w w' := by
  refine (swap_walk B len i j f w h hi hj HR hone).mono fun e w' ⟨he, hw⟩ => ⟨he, ?_⟩
  have r1 := ten_row w B i 49 (len * 10) f (f (j * 10)) (f (j * 10 + 1)) (f (j * 10 + 2)) (f (j * 10 + 3)) (f (j * 10 + 4)) (f (j * 10 + 5)) (f (j * 10 + 6)) (f (j * 10 + 7)) (f (j * 10 + 8)) (f (j * 10 + 9)) HR
  have r2 := (ten_row _ B j 49 (len * 10) _ (f (i * 10)) (f (i * 10 + 1)) (f (i * 10 + 2)) (f (i * 10 + 3)) (f (i * 10 + 4)) (f (i * 10 + 5)) (f (i * 10 + 6)) (f (i * 10 + 7)) (f (i * 10 + 8)) (f (i * 10 + 9)) r1).congr (fun k _ => put_swp f i j k)
  have b1 := ten_below w B i (f (j * 10)) (f (j * 10 + 1)) (f (j * 10 + 2)) (f (j * 10 + 3)) (f (j * 10 + 4)) (f (j * 10 + 5)) (f (j * 10 + 6)) (f (j * 10 + 7)) (f (j * 10 + 8)) (f (j * 10 + 9))
  have b2 := fun W => ten_below W B j (f (i * 10)) (f (i * 10 + 1)) (f (i * 10 + 2)) (f (i * 10 + 3)) (f (i * 10 + 4)) (f (i * 10 + 5)) (f (i * 10 + 6)) (f (i * 10 + 7)) (f (i * 10 + 8)) (f (i * 10 + 9))
  rw [hw]
  exact ⟨r2.drew, (b1.trans (b2 _)).drew, by simp⟩
theorem swap_call (B len i j : Nat) (f : Nat → Value) (w : World) (h : len ≤ 65536) (hi : i < len) (hj : j < len) (HR : w.rowIs B 49 (len * 10) f) (hone : ∀ k, (f k).oneCell' = true) :
    Calls Try.prog 12 #[.slice (some ⟨B, 0, none⟩) len len, .int .i64 i, .int .i64 j] w fun e w' => e = .returned (.tuple #[]) ∧ Swapped B len (swp i j f) w w' := by
  have H := Lib.hid (swap_any B len i j f w h hi hj HR hone)
  generalize Swapped B len (swp i j f) w = Q at H ⊢
  clear HR hone
  go_enter Try.func12, Try.ntmps12
  go_wp2_with fail
  refine H.out.mono ?_
  rintro e w' ⟨rfl, hq⟩
  go_wp2
  go_end0
  exact ⟨rfl, hq⟩
end Go.Proofs.Ythenbnofpdjimaa.Swap
