/- zzKeyed at any slice, the bounds zzBytes and zzStrBytes, and Swap that leaves all but its row: by contracts. Conditions: at most 65536 keys. -/
import Derived.Test.YthenbnofpdjimaaSwapC
import Derived.Test.YthenbnofpdjimaaSls
namespace Go.Proofs.Ythenbnofpdjimaa.Swap
open Go.ChangeShapes Go.WideShapes Go.ChangeAt Go.RowKit Go.Deep Go.Proofs.Ythenbnofpdjimaa.Base Go.Proofs.Ythenbnofpdjimaa.Itoa Go.Proofs.Ythenbnofpdjimaa.Keyed Go.Proofs.Ythenbnofpdjimaa.Sls
set_option linter.unusedVariables false
set_option maxHeartbeats 1000000 in
theorem keyed_x (a : Option Addr) (len cap : Nat) (w : World) (h : len ≤ 65536) (ks : Nat → ByteArray) (ha : 0 < len → ∃ x, a = some x ∧ x.block < w.heap.size ∧ ∀ i, i < len → w.cell? (x.add i) = some (.string (ks i))) :
    Calls Try.prog 7 #[.slice a len cap] w fun e w' => e = .returned (.slice (some ⟨w.heap.size, 0, none⟩) len len) ∧ w'.rowIs w.heap.size 49 (len * 10) (ents ks len) ∧ Below w.heap.size w w' := by
  have hmk := make_any len h
  have HA := Lib.hid ha; clear ha
  go_enter Try.func7, Try.ntmps7
  go_wp2
  clear hmk
  go_loopw [4] (fun i wr => ∃ k : Nat, k ≤ len ∧ i = .int .i64 k ∧ wr.rowIs w.heap.size 49 (len * 10) (ents ks k) ∧ Below w.heap.size w wr) (fun i _ => len - (intOf i).toNat)
  case atStart =>
    refine ⟨0, by omega, rfl, ?_, (Below.refl _ _).alloc (Nat.le_refl _) _⟩
    have := World.rowIs_alloc w (madeCells #[.string { data := #[] }, .string { data := #[] }, .slice none 0 0, .slice none 0 0, .slice none 0 0, .int .i32 0, .int .i32 0, .int .u8 0, .int .i32 0, .int .i32 0] (len * 10)) 49 (ents ks 0) (fun i hi => zero_cells ks _ i (by rw [size_madeCells] at hi; exact hi))
    rw [size_madeCells] at this
    exact this
  case round =>
    obtain ⟨k, hk, rfl, HR, hbel⟩ := hrel
    by_cases hlt : k < len
    · obtain ⟨x, rfl, hb, hc⟩ := HA.out (by omega)
      have ck : wr.cell? (x.add k) = some (.string (ks k)) := by rw [hbel.cell (by rw [add_block]; exact hb)]; exact hc k hlt
      have hbz : x.block < wr.heap.size := Nat.lt_of_lt_of_le hb hbel.size
      have hwz := hbel.size
      have x1 : (0 : Int) ≤ (k : Int) := by omega
      have x2 : (k : Int) < (len : Int) := by omega
      clear hc
      go_wp2
      go_region_held3 (fun w' => w'.cell? (x.add k) = some (.string (ks k)))
        (first | go_keep | (rw [hb1.cell (by rw [add_block]; simp; omega)]; assumption) | (rw [hb2.cell (by rw [add_block]; have := hb1.size; simp at this ⊢; omega)]; assumption) | (rw [hb3.cell (by rw [add_block]; have := hb1.size; have := hb2.size; simp at *; omega)]; assumption) | (rw [(ten_below _ _ _ _ _ _ _ _ _ _ _ _ _).cell (by rw [add_block]; exact hb)]; assumption))
        ((first | (go_at_call 23; refine (itoa_any _ _ (by omega)).mono ?_; rintro e w1 ⟨rfl, hb1⟩) | (go_at_call 22; refine (strEntry _ _).mono ?_; rintro e w2 ⟨rfl, hb2⟩) | (go_at_call 21; refine (mapEntry _ _ _).mono ?_; rintro e w3 ⟨rfl, hb3⟩; have HR3 := row_keep (row_keep (row_keep HR.drew hb1 (by simp)) hb2 (by simp)) hb3 (by simp); have c0 := HR3.cell (i := k * 10) (by omega); have c1 := HR3.cell (i := k * 10 + 1) (by omega); have c2 := HR3.cell (i := k * 10 + 2) (by omega); have c3 := HR3.cell (i := k * 10 + 3) (by omega); have c4 := HR3.cell (i := k * 10 + 4) (by omega); have c5 := HR3.cell (i := k * 10 + 5) (by omega); have c6 := HR3.cell (i := k * 10 + 6) (by omega); have c7 := HR3.cell (i := k * 10 + 7) (by omega); have c8 := HR3.cell (i := k * 10 + 8) (by omega); have c9 := HR3.cell (i := k * 10 + 9) (by omega); have f0 := HR3.frozen (k * 10); have f1 := HR3.frozen (k * 10 + 1); have f2 := HR3.frozen (k * 10 + 2); have f3 := HR3.frozen (k * 10 + 3); have f4 := HR3.frozen (k * 10 + 4); have f5 := HR3.frozen (k * 10 + 5); have f6 := HR3.frozen (k * 10 + 6); have f7 := HR3.frozen (k * 10 + 7); have f8 := HR3.frozen (k * 10 + 8); have f9 := HR3.frozen (k * 10 + 9); have HR4 := Lib.hid HR3; clear HR3)))
      have T1 := Lib.hid ((ten_row w3 w.heap.size k 49 (len * 10) _ (.string (ks k)) (.string (itoa k)) (.slice none 0 0) (.slice none 0 0) (.slice none 0 0) (.int .i32 0) (.int .i32 0) (.int .u8 1) (.int .i32 0) (.int .i32 0) HR4.out).congr (fun i _ => ents_step ks k i))
      have T2 := Lib.hid ((below_join (below_join (below_join (hbel.drew) (by simpa using hwz) hb1) (by have := hb1.size; simp at this; omega) hb2) (by have := hb1.size; have := hb2.size; simp at *; omega) hb3).trans (ten_below w3 w.heap.size k (.string (ks k)) (.string (itoa k)) (.slice none 0 0) (.slice none 0 0) (.slice none 0 0) (.int .i32 0) (.int .i32 0) (.int .u8 1) (.int .i32 0) (.int .i32 0)))
      clear c0 c1 c2 c3 c4 c5 c6 c7 c8 c9 f0 f1 f2 f3 f4 f5 f6 f7 f8 f9 HR hbel hb1 hb2 hb3 HR4 ck
      go_wp2
      go_roundw
      case rel => exact ⟨k + 1, by omega, by go_num, T1.out, T2.out⟩
      case measure => simp [intOf]; omega
    · have hkl : k = len := by omega
      subst hkl
      have T1 := Lib.hid HR
      have T2 := Lib.hid hbel
      clear HR hbel
      go_wp2
      go_ret
      exact ⟨rfl, T1.out, T2.out⟩
/-- If it says yes, what the arguments lead to is short. -/
theorem bytes10 (A0 : Option Addr) (n0 c0 : Nat) (l0 : List ByteArray) (x1 : Value) (x2 : Value) (w : World) (hl0 : l0.length = n0) (hn0 : n0 ≤ maxLen) (hr0 : Rd w w.heap.size A0 (sv l0)) (hs0 : ∀ s ∈ l0, s.size ≤ maxLen) :
    Calls Try.prog 10 #[.slice A0 n0 c0, x1, x2] w (Bd ((n0 + tot l0) ≤ 1048576) w) := by
  unfold maxLen at hn0
  have HL0 := Lib.hid hl0; have HR0 := Lib.hid hr0; have HS0 := Lib.hid hs0
  clear hl0 hr0 hs0
  go_enter Try.func10, Try.ntmps10
  go_wp2
  all_goals try (go_ret; exact ⟨false, rfl, (fun h => by cases h), rfl⟩)
  go_loop [7, 8] (fun z i => ∃ k m : Nat, k ≤ n0 ∧ m ≤ 1048576 ∧ i = .int .i64 k ∧ z = .int .i64 m ∧ Hid (m = n0 + tot (l0.take k))) (fun _ i => n0 - (intOf i).toNat)
  case atStart => exact ⟨0, n0, by omega, by omega, rfl, by go_num, Lib.hid rfl⟩
  case round =>
    obtain ⟨k0, m0, hk0, hm0, rfl, rfl, E0⟩ := hrel
    by_cases hlt0 : k0 < n0
    · have hkl : k0 < l0.length := by rw [HL0.out]; exact hlt0
      obtain ⟨x, rfl, hxb, cx⟩ := HR0.out.at_ (sv_at l0 k0 hkl)
      have hz := HS0.out _ (List.getElem_mem hkl)
      unfold maxLen at hz
      have TS := Lib.hid (tot_step l0 k0 hkl)
      obtain ⟨s, hs⟩ : ∃ s, s = l0[k0] := ⟨_, rfl⟩
      rw [← hs] at cx hz
      have HS := Lib.hid hs
      clear hs
      go_wp2
      all_goals try (go_ret; exact ⟨false, rfl, (fun h => by cases h), rfl⟩)
      go_round
      case rel => exact ⟨k0 + 1, m0 + s.size, by omega, by omega, by go_num, by go_num, Lib.hid (by have := E0.out; have := TS.out; rw [← HS.out] at this; omega)⟩
      case measure => simp [intOf]; omega
    · obtain rfl : k0 = n0 := by omega
      go_wp2
      all_goals first | (go_ret; exact ⟨false, rfl, (fun h => by cases h), rfl⟩) | skip
      go_ret
      exact ⟨true, rfl, (fun _ => by have := E0.out; rw [List.take_of_length_le (by rw [HL0.out]; omega)] at this; omega), rfl⟩
/-- What zzStrBytes says. -/
def Sb (n : Nat) (w : World) (e : Ending) (w' : World) : Prop := ∃ t : Int, e = .returned (.int .i64 t) ∧ (t ≤ 1048576 → n ≤ 65536) ∧ w = w'
theorem strBytes (A : Option Addr) (n c : Nat) (l : List ByteArray) (w : World) (hl : l.length = n) (hn : n + tot l ≤ 1048576) (hr : Rd w w.heap.size A (sv l)) : Calls Try.prog 11 #[.slice A n c] w (Sb n w) := by
  have HL := Lib.hid hl; have HR := Lib.hid hr; have HT := Lib.hid hn
  have hn1 : n ≤ 1048576 := by omega
  clear hl hr hn
  by_cases hb : n ≤ 65536
  · go_enter Try.func11, Try.ntmps11
    go_wp2
    go_loop [3, 4] (fun z i => ∃ k m : Nat, k ≤ n ∧ m ≤ 16777216 ∧ i = .int .i64 k ∧ z = .int .i64 m ∧ Hid (m = 16 * n + tot (l.take k))) (fun _ i => n - (intOf i).toNat)
    case atStart => exact ⟨0, 16 * n, by omega, by omega, rfl, by go_num, Lib.hid rfl⟩
    case round =>
      obtain ⟨k, m, hk, hm, rfl, rfl, E⟩ := hrel
      by_cases hlt : k < n
      · have hkl : k < l.length := by rw [HL.out]; exact hlt
        obtain ⟨x, rfl, hxb, cx⟩ := HR.out.at_ (sv_at l k hkl)
        have TS := Lib.hid (tot_step l k hkl)
        have hz : l[k].size ≤ 1048576 ∧ m + l[k].size ≤ 16777216 := by
          have := TS.out; have := tot_le l (k + 1); have := HT.out; have := E.out; omega
        obtain ⟨s, hs⟩ : ∃ s, s = l[k] := ⟨_, rfl⟩
        rw [← hs] at cx hz
        have HS := Lib.hid hs
        obtain ⟨hz1, hz2⟩ := hz
        clear hs
        go_wp2
        · go_ret
          exact ⟨_, rfl, fun _ => hb, rfl⟩
        · go_round
          case rel => exact ⟨k + 1, m + s.size, by omega, by omega, by go_num, by go_num, Lib.hid (by have := E.out; have := TS.out; rw [← HS.out] at this; omega)⟩
          case measure => simp [intOf]; omega
      · go_wp2
        go_ret
        exact ⟨_, rfl, fun _ => hb, rfl⟩
  · go_enter Try.func11, Try.ntmps11
    go_wp2
    go_ret
    exact ⟨_, rfl, fun h => by omega, rfl⟩
/-! ### Swap and the other blocks -/
theorem grown_set {a w : World} {g o : Nat} (h : a.grownBy w (some g)) (u : Value) : a.grownBy (w.setCell ⟨g, o, none⟩ u) (some g) :=
  ⟨h.os, h.tape, h.output, by simpa using h.size, fun i hi hn => (Below.heap_setCell w ⟨g, o, none⟩ u i (fun e => hn (by rw [e]))).trans (h.block i hi hn)⟩
theorem grown_drew {a w : World} {r : Option Nat} (h : a.grownBy w r) : a.grownBy w.drew r := ⟨h.os, h.tape, h.output, h.size, h.block⟩
def Sw (B len : Nat) (G : Nat → Value) (w w' : World) : Prop := w'.rowIs B 49 (len * 10) G ∧ w.grownBy w' (some B) ∧ w'.heap.size = w.heap.size
theorem swap_two (B len i j : Nat) (f : Nat → Value) (w : World) (h : len ≤ 65536) (hi : i < len) (hj : j < len) (HR : w.rowIs B 49 (len * 10) f) (hone : ∀ k, (f k).oneCell' = true) :
    Calls Try.prog 26 #[.slice (some ⟨B, 0, none⟩) len len, .int .i64 i, .int .i64 j] w fun e w' => e = .returned (.tuple #[]) ∧ Sw B len (swp i j f) w w' := by
  refine (swap_walk B len i j f w h hi hj HR hone).mono fun e w' ⟨he, hw⟩ => ⟨he, ?_⟩
  have r1 := ten_row w B i 49 (len * 10) f (f (j * 10)) (f (j * 10 + 1)) (f (j * 10 + 2)) (f (j * 10 + 3)) (f (j * 10 + 4)) (f (j * 10 + 5)) (f (j * 10 + 6)) (f (j * 10 + 7)) (f (j * 10 + 8)) (f (j * 10 + 9)) HR
  have r2 := (ten_row _ B j 49 (len * 10) _ (f (i * 10)) (f (i * 10 + 1)) (f (i * 10 + 2)) (f (i * 10 + 3)) (f (i * 10 + 4)) (f (i * 10 + 5)) (f (i * 10 + 6)) (f (i * 10 + 7)) (f (i * 10 + 8)) (f (i * 10 + 9)) r1).congr (fun k _ => put_swp f i j k)
  rw [hw]
  refine ⟨r2.drew, ?_, by simp⟩
  exact grown_drew (grown_set (grown_set (grown_set (grown_set (grown_set (grown_set (grown_set (grown_set (grown_set (grown_set (grown_set (grown_set (grown_set (grown_set (grown_set (grown_set (grown_set (grown_set (grown_set (grown_set (World.grownBy.refl w _) _) _) _) _) _) _) _) _) _) _) _) _) _) _) _) _) _) _) _) _)
theorem swap_in (B len i j : Nat) (f : Nat → Value) (w : World) (h : len ≤ 65536) (hi : i < len) (hj : j < len) (HR : w.rowIs B 49 (len * 10) f) (hone : ∀ k, (f k).oneCell' = true) :
    Calls Try.prog 12 #[.slice (some ⟨B, 0, none⟩) len len, .int .i64 i, .int .i64 j] w fun e w' => e = .returned (.tuple #[]) ∧ Sw B len (swp i j f) w w' := by
  have H := Lib.hid (swap_two B len i j f w h hi hj HR hone)
  generalize Sw B len (swp i j f) w = Q at H ⊢
  clear HR hone
  go_enter Try.func12, Try.ntmps12
  go_wp2_with fail
  refine H.out.mono ?_
  rintro e w' ⟨rfl, hq⟩
  go_wp2
  go_end0
  exact ⟨rfl, hq⟩
/-! ### what the slots hold -/
def pm (i j k : Nat) : Nat := if k = j then i else if k = i then j else k
theorem pm_comm (i j k : Nat) : pm i j k = pm j i k := by
  unfold pm
  by_cases h1 : k = j <;> by_cases h2 : k = i
  · rw [if_pos h1, if_pos h2]; omega
  · rw [if_pos h1, if_neg h2, if_pos h1]
  · rw [if_neg h1, if_pos h2, if_pos h2]
  · rw [if_neg h1, if_neg h2, if_neg h2, if_neg h1]
theorem pm_lt (i j k n : Nat) (hi : i < n) (hj : j < n) (hk : k < n) : pm i j k < n := by
  unfold pm; split
  · exact hi
  · split
    · exact hj
    · exact hk
theorem ents_at (ks : Nat → ByteArray) (n p r : Nat) (hp : p < n) (hr : r < 10) : ents ks n (p * 10 + r) = fld (ks p) (itoa p) 1 r := by
  unfold ents
  have e1 : (p * 10 + r) / 10 = p := by omega
  have e2 : (p * 10 + r) % 10 = r := by omega
  rw [e1, e2, if_pos hp]
theorem swp_at (ks : Nat → ByteArray) (n i j k r : Nat) (hi : i < n) (hj : j < n) (hk : k < n) (hr : r < 10) : swp i j (ents ks n) (k * 10 + r) = fld (ks (pm i j k)) (itoa (pm i j k)) 1 r := by
  have e1 : (k * 10 + r) / 10 = k := by omega
  have e2 : (k * 10 + r) % 10 = r := by omega
  unfold swp pm
  rw [e1, e2]
  by_cases h1 : k = j
  · rw [if_pos h1, if_pos h1]; exact ents_at ks n i r hi hr
  · rw [if_neg h1, if_neg h1]
    by_cases h2 : k = i
    · rw [if_pos h2, if_pos h2]; exact ents_at ks n j r hj hr
    · rw [if_neg h2, if_neg h2]; exact ents_at ks n k r hk hr
theorem swp_swp (f : Nat → Value) (i j c : Nat) : swp i j (swp i j f) c = f c := by
  have hc : c = c / 10 * 10 + c % 10 := by omega
  have e1 : ∀ p, (p * 10 + c % 10) / 10 = p := fun p => by omega
  have e2 : ∀ p, (p * 10 + c % 10) % 10 = c % 10 := fun p => by omega
  unfold swp
  rw [e1, e2, e1, e2]
  by_cases h1 : c / 10 = j
  · rw [if_pos h1]
    by_cases h2 : i = j
    · rw [if_pos h2]; conv => rhs; rw [hc, h1]
      rw [h2]
    · rw [if_neg h2, if_pos rfl]; conv => rhs; rw [hc, h1]
  · rw [if_neg h1]
    by_cases h2 : c / 10 = i
    · rw [if_pos h2, if_pos rfl]; conv => rhs; rw [hc, h2]
    · rw [if_neg h2, if_neg h1, if_neg h2]
theorem fld_one (K V : ByteArray) (r : Nat) : (fld K V 1 r).oneCell' = true := by
  unfold fld; split <;> rfl
theorem ents_one (ks : Nat → ByteArray) (n c : Nat) : (ents ks n c).oneCell' = true := by
  unfold ents; split
  · exact fld_one _ _ _
  · unfold fld; split <;> rfl
theorem swp_one (f : Nat → Value) (i j : Nat) (h : ∀ c, (f c).oneCell' = true) (c : Nat) : (swp i j f c).oneCell' = true := by
  unfold swp; split
  · exact h _
  · split
    · exact h _
    · exact h _
end Go.Proofs.Ythenbnofpdjimaa.Swap
