/- zzBytes of the second law, the exported reverse resolve with one expansion key, the last entry of a row: by contracts. -/
import Derived.Test.YtoonlcdifpffnaaIeF
namespace Go.Proofs.Ytoonlcdifpffnaa.IeG
open Go.RowKit Go.Deep Go.Proofs.Ytoonlcdifpffnaa.Base Go.Proofs.Ytoonlcdifpffnaa.Sls Go.Proofs.Ytoonlcdifpffnaa.IeA Go.Proofs.Ytoonlcdifpffnaa.IeB Go.Proofs.Ytoonlcdifpffnaa.IeC Go.Proofs.Ytoonlcdifpffnaa.IeD Go.Proofs.Ytoonlcdifpffnaa.IeE Go.Proofs.Ytoonlcdifpffnaa.IeF
set_option linter.unusedVariables false
attribute [local go_sem ↓] Go.wp_at_zero Go.wp_at_succ
/-- If it says yes, what the arguments lead to is short. -/
theorem bytesx (A0 : Option Addr) (n0 c0 : Nat) (l0 : List ByteArray) (A1 : Option Addr) (n1 c1 : Nat) (l1 : List ByteArray) (s2 : ByteArray) (s3 : ByteArray) (s4 : ByteArray) (s5 : ByteArray) (x6 : Value) (w : World) (hl0 : l0.length = n0) (hn0 : n0 ≤ maxLen) (hr0 : Rd w w.heap.size A0 (sv l0)) (hs0 : ∀ s ∈ l0, s.size ≤ maxLen) (hl1 : l1.length = n1) (hn1 : n1 ≤ maxLen) (hr1 : Rd w w.heap.size A1 (sv l1)) (hs1 : ∀ s ∈ l1, s.size ≤ maxLen) (hs2 : s2.size ≤ maxLen) (hs3 : s3.size ≤ maxLen) (hs4 : s4.size ≤ maxLen) (hs5 : s5.size ≤ maxLen) :
    Calls Try.prog 12 #[.slice A0 n0 c0, .slice A1 n1 c1, .string s2, .string s3, .string s4, .string s5, x6] w (Bd ((n0 + tot l0) + (n1 + tot l1) + s2.size + s3.size + s4.size + s5.size ≤ 1048576) w) := by
  unfold maxLen at hn0
  have HL0 := Lib.hid hl0; have HR0 := Lib.hid hr0; have HS0 := Lib.hid hs0
  clear hl0 hr0 hs0
  unfold maxLen at hn1
  have HL1 := Lib.hid hl1; have HR1 := Lib.hid hr1; have HS1 := Lib.hid hs1
  clear hl1 hr1 hs1
  unfold maxLen at hs2
  unfold maxLen at hs3
  unfold maxLen at hs4
  unfold maxLen at hs5
  go_enter Try.func12, Try.ntmps12
  go_wp2
  all_goals try (go_ret; exact ⟨false, rfl, (fun h => by cases h), rfl⟩)
  go_loop [15, 16] (fun z i => ∃ k m : Nat, k ≤ n0 ∧ m ≤ 1048576 ∧ i = .int .i64 k ∧ z = .int .i64 m ∧ Hid (m = n0 + tot (l0.take k))) (fun _ i => n0 - (intOf i).toNat)
  case atStart => exact ⟨0, n0, by omega, by omega, rfl, by go_num, Lib.hid rfl⟩
  case round =>
    obtain ⟨k0, m0, hk0, hm0, rfl, rfl, E0⟩ := hrel
    by_cases hlt0 : k0 < n0
    · have hkl : k0 < l0.length := by rw [HL0.out]; exact hlt0
      obtain ⟨x, rfl, hxb, cx⟩ := HR0.out.at_ (sv_at l0 k0 hkl)
      have hz := HS0.out _ (List.getElem_mem hkl)
      unfold maxLen at hz
      have TS := Lib.hid (tot_step l0 k0 hkl)
      obtain ⟨s, hs⟩ : ∃ s, s = l0[k0] := ⟨_, rfl⟩
      rw [← hs] at cx hz
      have HS := Lib.hid hs
      clear hs
      go_wp2
      all_goals try (go_ret; exact ⟨false, rfl, (fun h => by cases h), rfl⟩)
      go_round
      case rel => exact ⟨k0 + 1, m0 + s.size, by omega, by omega, by go_num, by go_num, Lib.hid (by have := E0.out; have := TS.out; rw [← HS.out] at this; omega)⟩
      case measure => simp [intOf]; omega
    · obtain rfl : k0 = n0 := by omega
      go_wp2
      all_goals try (go_ret; exact ⟨false, rfl, (fun h => by cases h), rfl⟩)
      go_loop [15, 17] (fun z i => ∃ k m : Nat, k ≤ n1 ∧ m ≤ 1048576 ∧ i = .int .i64 k ∧ z = .int .i64 m ∧ Hid (m = m0 + n1 + tot (l1.take k))) (fun _ i => n1 - (intOf i).toNat)
      case atStart => exact ⟨0, m0 + n1, by omega, by omega, rfl, by go_num, Lib.hid rfl⟩
      case round =>
        obtain ⟨k1, m1, hk1, hm1, rfl, rfl, E1⟩ := hrel
        by_cases hlt1 : k1 < n1
        · have hkl : k1 < l1.length := by rw [HL1.out]; exact hlt1
          obtain ⟨x, rfl, hxb, cx⟩ := HR1.out.at_ (sv_at l1 k1 hkl)
          have hz := HS1.out _ (List.getElem_mem hkl)
          unfold maxLen at hz
          have TS := Lib.hid (tot_step l1 k1 hkl)
          obtain ⟨s, hs⟩ : ∃ s, s = l1[k1] := ⟨_, rfl⟩
          rw [← hs] at cx hz
          have HS := Lib.hid hs
          clear hs
          go_wp2
          all_goals try (go_ret; exact ⟨false, rfl, (fun h => by cases h), rfl⟩)
          go_round
          case rel => exact ⟨k1 + 1, m1 + s.size, by omega, by omega, by go_num, by go_num, Lib.hid (by have := E1.out; have := TS.out; rw [← HS.out] at this; omega)⟩
          case measure => simp [intOf]; omega
        · obtain rfl : k1 = n1 := by omega
          go_wp2
          all_goals first | (go_ret; exact ⟨false, rfl, (fun h => by cases h), rfl⟩) | skip
          go_ret
          exact ⟨true, rfl, (fun _ => by have := E0.out; rw [List.take_of_length_le (by rw [HL0.out]; omega)] at this; have := E1.out; rw [List.take_of_length_le (by rw [HL1.out]; omega)] at this; omega), rfl⟩
def up {α : Type} (f : Nat → α) (n : Nat) (v : α) : Nat → α := fun i => if i = n then v else f i
theorem up_at {α : Type} (f : Nat → α) (n : Nat) (v : α) : up f n v n = v := if_pos rfl
theorem up_lt {α : Type} (f : Nat → α) (n : Nat) (v : α) {i : Nat} (h : i < n) : up f n v i = f i := if_neg (by omega)
theorem entt_up (ks vs : Nat → ByteArray) (lf : Nat → Int) (n : Nat) (key tv : ByteArray) (l : Int) (i : Nat) : put10 n (.string key) (.string tv) (.slice none 0 0) (.slice none 0 0) (.slice none 0 0) (.int .i32 ((n : Nat) + 1)) (.int .i32 l) (.int .u8 1) (.int .i32 0) (.int .i32 0) (entt ks vs lf n) i = entt (up ks n key) (up vs n tv) (up lf n l) (n + 1) i := by
  have h := entt_step (up ks n key) (up vs n tv) (up lf n l) n i
  rw [up_at, up_at, up_at] at h
  rw [← h]
  congr 1
  funext c
  unfold entt
  by_cases hc : c / 10 < n
  · rw [if_pos hc, if_pos hc, up_lt _ _ _ hc, up_lt _ _ _ hc, up_lt _ _ _ hc]
  · rw [if_neg hc, if_neg hc]
theorem rowx (w : World) (key tv : ByteArray) (st ln : Int) : (w.alloc (.cells #[.string key, .string tv, .slice none 0 0, .slice none 0 0, .slice none 0 0, .int .i32 st, .int .i32 ln, .int .u8 1, .int .i32 0, .int .i32 0] 43)).rowIs w.heap.size 43 10 (fldt key tv st ln 1) :=
  World.rowIs_alloc w #[.string key, .string tv, .slice none 0 0, .slice none 0 0, .slice none 0 0, .int .i32 st, .int .i32 ln, .int .u8 1, .int .i32 0, .int .i32 0] 43 _ (fun i hi => by
    match i, hi with
    | 0, _ => rfl
    | 1, _ => rfl
    | 2, _ => rfl
    | 3, _ => rfl
    | 4, _ => rfl
    | 5, _ => rfl
    | 6, _ => rfl
    | 7, _ => rfl
    | 8, _ => rfl
    | 9, _ => rfl)
set_option maxRecDepth 20000 in
theorem zz9x (q want key tv : ByteArray) (B C m n cap cc : Nat) (ks vs : Nat → ByteArray) (lf : Nat → Int) (w : World) (hr : w.rowIs B 43 (m * 10) (entt ks vs lf m)) (hc : w.rowIs C 43 10 (fldt key tv ((n : Nat) + 1) 2 1))
    (h17 : ∀ w' : World, w'.rowIs B 43 (m * 10) (entt ks vs lf m) → w'.rowIs C 43 10 (fldt key tv ((n : Nat) + 1) 2 1) → Calls Try.prog 17 #[.agg #[.pointer none, .pointer none, .pointer none, .int .u8 0], .string q, .agg #[.string { data := #[] }, .slice none 0 0, .slice (some ⟨B, 0, none⟩) m cap, .slice (some ⟨C, 0, none⟩) 1 cc, .int .i32 0, .int .i32 0, .int .u8 3], .map none] w' fun e w'' => e = .returned (.tuple #[.bool true, .string want, .agg #[.int .i32 ((n : Nat) + 1), .int .i32 2]]) ∧ Below w'.heap.size w' w'') :
    Calls Try.prog 9 #[.string q, .agg #[.string { data := #[] }, .slice none 0 0, .slice (some ⟨B, 0, none⟩) m cap, .slice (some ⟨C, 0, none⟩) 1 cc, .int .i32 0, .int .i32 0, .int .u8 3], .map none] w fun e w' => e = .returned (.tuple #[.bool true, .string want, .agg #[.int .i32 ((n : Nat) + 1), .int .i32 2]]) ∧ Below w.heap.size w w' := by
  have CX := Lib.hid h17
  have HR := Lib.hid hr; have HC := Lib.hid hc
  clear hr hc h17
  go_enter Try.func9, Try.ntmps9
  go_wp2_with (fail)
  refine (CX.out _ ((HR.out.alloc _).alloc _) ((HC.out.alloc _).alloc _)).mono ?_
  rintro e w2 ⟨rfl, hb⟩
  have P2 : w2.rowIs (w.heap.size + 1) 31 2 (two 0 0) := row_below (by have := row2 (w.alloc (.cells #[.string { data := #[] }, .slice none 0 0, .slice (some ⟨B, 0, none⟩) m cap, .slice (some ⟨C, 0, none⟩) 1 cc, .int .i32 0, .int .i32 0, .int .u8 3] 34)); rw [World.size_alloc] at this; exact this) hb (by simp only [World.size_alloc]; omega)
  have B2 := (((Below.refl w.heap.size w).alloc (Nat.le_refl _) _).alloc (by simp only [World.size_alloc]; omega) _).trans (hb.mono (by simp only [World.size_alloc]; omega))
  have d0 := P2.cell (i := 0) (by omega)
  have d1 := P2.cell (i := 1) (by omega)
  have g0 := P2.frozen 0
  have g1 := P2.frozen 1
  simp only [two] at d0 d1
  have HP := Lib.hid P2
  have HB := Lib.hid B2
  clear P2 B2 hb
  go_wp2
  have S2 := (HP.out.set 0 (.int .i32 ((n : Nat) + 1))).set 1 (.int .i32 2)
  have s0 := S2.cell (i := 0) (by omega)
  have s1 := S2.cell (i := 1) (by omega)
  simp at s0 s1
  have B7 := bset2 HB.out (Nat.le_succ w.heap.size) (.int .i32 ((n : Nat) + 1)) (.int .i32 2)
  exact bodyPost_ret (v := .tuple #[.bool true, .string want, .agg #[.int .i32 ((n : Nat) + 1), .int .i32 2]]) (by simp [results, Try.results9, go_sem, s0, s1]) rfl ⟨rfl, B7⟩
end Go.Proofs.Ytoonlcdifpffnaa.IeG
