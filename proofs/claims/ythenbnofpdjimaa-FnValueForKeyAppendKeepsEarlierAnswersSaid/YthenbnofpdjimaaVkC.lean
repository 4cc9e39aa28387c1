/- The outer call of valueForKey, an entry's kind and text, the model zzIsZeroEntry, and the bounds of the law: by contracts. -/
import Derived.Test.YthenbnofpdjimaaVkB
namespace Go.Proofs.Ythenbnofpdjimaa.Vk
open Go.ChangeShapes Go.WideShapes Go.ChangeAt Go.RowKit Go.Deep Go.Proofs.Ythenbnofpdjimaa.Base Go.Proofs.Ythenbnofpdjimaa.Itoa Go.Proofs.Ythenbnofpdjimaa.Keyed Go.Proofs.Ythenbnofpdjimaa.Sls Go.Proofs.Ythenbnofpdjimaa.Swap
set_option linter.unusedVariables false
/-- What zzStrBytes says. -/
def Sb2 (n : Nat) (w : World) (e : Ending) (w' : World) : Prop := ∃ t : Nat, e = .returned (.int .i64 t) ∧ t ≤ 33554432 ∧ (t ≤ 1048576 → n ≤ 65536) ∧ w = w'
theorem strBytes2 (A : Option Addr) (n c : Nat) (l : List ByteArray) (w : World) (hl : l.length = n) (hn : n + tot l ≤ 1048576) (hr : Rd w w.heap.size A (sv l)) : Calls Try.prog 11 #[.slice A n c] w (Sb2 n w) := by
  have HL := Lib.hid hl; have HR := Lib.hid hr; have HT := Lib.hid hn
  have hn1 : n ≤ 1048576 := by omega
  clear hl hr hn
  by_cases hb : n ≤ 65536
  · go_enter Try.func11, Try.ntmps11
    go_wp2
    go_loop [3, 4] (fun z i => ∃ k m : Nat, k ≤ n ∧ m ≤ 16777216 ∧ i = .int .i64 k ∧ z = .int .i64 m ∧ Hid (m = 16 * n + tot (l.take k))) (fun _ i => n - (intOf i).toNat)
    case atStart => exact ⟨0, 16 * n, by omega, by omega, rfl, by go_num, Lib.hid rfl⟩
    case round =>
      obtain ⟨k, m, hk, hm, rfl, rfl, E⟩ := hrel
      by_cases hlt : k < n
      · have hkl : k < l.length := by rw [HL.out]; exact hlt
        obtain ⟨x, rfl, hxb, cx⟩ := HR.out.at_ (sv_at l k hkl)
        have TS := Lib.hid (tot_step l k hkl)
        have hz : l[k].size ≤ 1048576 ∧ m + l[k].size ≤ 16777216 := by
          have := TS.out; have := tot_le l (k + 1); have := HT.out; have := E.out; omega
        obtain ⟨s, hs⟩ : ∃ s, s = l[k] := ⟨_, rfl⟩
        rw [← hs] at cx hz
        have HS := Lib.hid hs
        obtain ⟨hz1, hz2⟩ := hz
        clear hs
        go_wp2
        · go_ret
          exact ⟨m + s.size, ret_int (by omega), by omega, fun _ => hb, rfl⟩
        · go_round
          case rel => exact ⟨k + 1, m + s.size, by omega, by omega, by go_num, by go_num, Lib.hid (by have := E.out; have := TS.out; rw [← HS.out] at this; omega)⟩
          case measure => simp [intOf]; omega
      · go_wp2
        go_ret
        exact ⟨m, rfl, by omega, fun _ => hb, rfl⟩
  · go_enter Try.func11, Try.ntmps11
    go_wp2
    go_ret
    exact ⟨1048577, rfl, by omega, fun h => by omega, rfl⟩
/-- If it says yes, what the arguments lead to is short. -/
theorem bytes15 (A0 : Option Addr) (n0 c0 : Nat) (l0 : List ByteArray) (A1 : Option Addr) (n1 c1 : Nat) (l1 : List ByteArray) (s2 : ByteArray) (s3 : ByteArray) (s4 : ByteArray) (w : World) (hl0 : l0.length = n0) (hn0 : n0 ≤ maxLen) (hr0 : Rd w w.heap.size A0 (sv l0)) (hs0 : ∀ s ∈ l0, s.size ≤ maxLen) (hl1 : l1.length = n1) (hn1 : n1 ≤ maxLen) (hr1 : Rd w w.heap.size A1 (sv l1)) (hs1 : ∀ s ∈ l1, s.size ≤ maxLen) (hs2 : s2.size ≤ maxLen) (hs3 : s3.size ≤ maxLen) (hs4 : s4.size ≤ maxLen) :
    Calls Try.prog 15 #[.slice A0 n0 c0, .slice A1 n1 c1, .string s2, .string s3, .string s4] w (Bd ((n0 + tot l0) + (n1 + tot l1) + s2.size + s3.size + s4.size ≤ 1048576) w) := by
  unfold maxLen at hn0
  have HL0 := Lib.hid hl0; have HR0 := Lib.hid hr0; have HS0 := Lib.hid hs0
  clear hl0 hr0 hs0
  unfold maxLen at hn1
  have HL1 := Lib.hid hl1; have HR1 := Lib.hid hr1; have HS1 := Lib.hid hs1
  clear hl1 hr1 hs1
  unfold maxLen at hs2
  unfold maxLen at hs3
  unfold maxLen at hs4
  go_enter Try.func15, Try.ntmps15
  go_wp2
  all_goals try (go_ret; exact ⟨false, rfl, (fun h => by cases h), rfl⟩)
  go_loop [11, 12] (fun z i => ∃ k m : Nat, k ≤ n0 ∧ m ≤ 1048576 ∧ i = .int .i64 k ∧ z = .int .i64 m ∧ Hid (m = n0 + tot (l0.take k))) (fun _ i => n0 - (intOf i).toNat)
  case atStart => exact ⟨0, n0, by omega, by omega, rfl, by go_num, Lib.hid rfl⟩
  case round =>
    obtain ⟨k0, m0, hk0, hm0, rfl, rfl, E0⟩ := hrel
    by_cases hlt0 : k0 < n0
    · have hkl : k0 < l0.length := by rw [HL0.out]; exact hlt0
      obtain ⟨x, rfl, hxb, cx⟩ := HR0.out.at_ (sv_at l0 k0 hkl)
      have hz := HS0.out _ (List.getElem_mem hkl)
      unfold maxLen at hz
      have TS := Lib.hid (tot_step l0 k0 hkl)
      obtain ⟨s, hs⟩ : ∃ s, s = l0[k0] := ⟨_, rfl⟩
      rw [← hs] at cx hz
      have HS := Lib.hid hs
      clear hs
      go_wp2
      all_goals try (go_ret; exact ⟨false, rfl, (fun h => by cases h), rfl⟩)
      go_round
      case rel => exact ⟨k0 + 1, m0 + s.size, by omega, by omega, by go_num, by go_num, Lib.hid (by have := E0.out; have := TS.out; rw [← HS.out] at this; omega)⟩
      case measure => simp [intOf]; omega
    · obtain rfl : k0 = n0 := by omega
      go_wp2
      all_goals try (go_ret; exact ⟨false, rfl, (fun h => by cases h), rfl⟩)
      go_loop [11, 13] (fun z i => ∃ k m : Nat, k ≤ n1 ∧ m ≤ 1048576 ∧ i = .int .i64 k ∧ z = .int .i64 m ∧ Hid (m = m0 + n1 + tot (l1.take k))) (fun _ i => n1 - (intOf i).toNat)
      case atStart => exact ⟨0, m0 + n1, by omega, by omega, rfl, by go_num, Lib.hid rfl⟩
      case round =>
        obtain ⟨k1, m1, hk1, hm1, rfl, rfl, E1⟩ := hrel
        by_cases hlt1 : k1 < n1
        · have hkl : k1 < l1.length := by rw [HL1.out]; exact hlt1
          obtain ⟨x, rfl, hxb, cx⟩ := HR1.out.at_ (sv_at l1 k1 hkl)
          have hz := HS1.out _ (List.getElem_mem hkl)
          unfold maxLen at hz
          have TS := Lib.hid (tot_step l1 k1 hkl)
          obtain ⟨s, hs⟩ : ∃ s, s = l1[k1] := ⟨_, rfl⟩
          rw [← hs] at cx hz
          have HS := Lib.hid hs
          clear hs
          go_wp2
          all_goals try (go_ret; exact ⟨false, rfl, (fun h => by cases h), rfl⟩)
          go_round
          case rel => exact ⟨k1 + 1, m1 + s.size, by omega, by omega, by go_num, by go_num, Lib.hid (by have := E1.out; have := TS.out; rw [← HS.out] at this; omega)⟩
          case measure => simp [intOf]; omega
        · obtain rfl : k1 = n1 := by omega
          go_wp2
          all_goals first | (go_ret; exact ⟨false, rfl, (fun h => by cases h), rfl⟩) | skip
          go_ret
          exact ⟨true, rfl, (fun _ => by have := E0.out; rw [List.take_of_length_le (by rw [HL0.out]; omega)] at this; have := E1.out; rw [List.take_of_length_le (by rw [HL1.out]; omega)] at this; omega), rfl⟩
set_option maxHeartbeats 1000000 in
theorem value_of (g len : Nat) (ks vs : Nat → ByteArray) (q : ByteArray) (w : World) (h : len ≤ 65537) (hg : w.rowIs g 49 (len * 10) (entg ks vs len)) :
    Calls Try.prog 16 #[.agg #[.string { data := #[] }, .slice none 0 0, .slice (some ⟨g, 0, none⟩) len len, .slice none 0 0, .int .i32 0, .int .i32 0, .int .u8 3], .string q] w (Vf ks vs len q w) := by
  have C := Lib.hid (value_for g len ks vs q ((w.alloc (.cells #[.string { data := #[] }, .slice none 0 0, .slice (some ⟨g, 0, none⟩) len len, .slice none 0 0, .int .i32 0, .int .i32 0, .int .u8 3] 41)).alloc (.cells #[.string { data := #[] }, .slice none 0 0, .slice none 0 0, .slice none 0 0, .int .i32 0, .int .i32 0, .int .u8 0] 41)) h ((hg.alloc _).alloc _))
  have R1 := Lib.hid (row7 (w.alloc (.cells #[.string { data := #[] }, .slice none 0 0, .slice (some ⟨g, 0, none⟩) len len, .slice none 0 0, .int .i32 0, .int .i32 0, .int .u8 3] 41)))
  have B2 := Lib.hid (((Below.refl w.heap.size w).alloc (Nat.le_refl _) (.cells #[.string { data := #[] }, .slice none 0 0, .slice (some ⟨g, 0, none⟩) len len, .slice none 0 0, .int .i32 0, .int .i32 0, .int .u8 3] 41)).alloc (by simp) (.cells #[.string { data := #[] }, .slice none 0 0, .slice none 0 0, .slice none 0 0, .int .i32 0, .int .i32 0, .int .u8 0] 41))
  clear hg
  go_enter Try.func16, Try.ntmps16
  go_wp2_with fail
  refine C.out.mono ?_
  rintro e w3 ⟨v, b, rfl, hf, hb3⟩
  have hB3 := below_join B2.out B2.out.size hb3
  have Q0 := row_keep R1.out hb3 (Nat.le_refl _)
  simp only [World.size_alloc] at Q0
  clear hb3
  cases hf with
  | yes p hp =>
    have HP := Lib.hid hp
    clear hp
    have S7 := seven_row w3 (w.heap.size + 1) 41 _ (.string (vs p)) (.slice none 0 0) (.slice none 0 0) (.slice none 0 0) (.int .i32 0) (.int .i32 0) (.int .u8 1) Q0
    have B7 := hB3.trans ((seven_below w3 (w.heap.size + 1) (.string (vs p)) (.slice none 0 0) (.slice none 0 0) (.slice none 0 0) (.int .i32 0) (.int .i32 0) (.int .u8 1)).mono (by omega))
    have c0 := Q0.cell (i := 0) (by omega)
    have f0 := Q0.frozen 0
    have c1 := Q0.cell (i := 1) (by omega)
    have f1 := Q0.frozen 1
    have c2 := Q0.cell (i := 2) (by omega)
    have f2 := Q0.frozen 2
    have c3 := Q0.cell (i := 3) (by omega)
    have f3 := Q0.frozen 3
    have c4 := Q0.cell (i := 4) (by omega)
    have f4 := Q0.frozen 4
    have c5 := Q0.cell (i := 5) (by omega)
    have f5 := Q0.frozen 5
    have c6 := Q0.cell (i := 6) (by omega)
    have f6 := Q0.frozen 6
    simp only [nil7] at c0 c1 c2 c3 c4 c5 c6
    have HS7 := Lib.hid S7; have HB7 := Lib.hid B7
    clear Q0 S7 B7 hB3
    go_wp2
    clear c0 c1 c2 c3 c4 c5 c6 f0 f1 f2 f3 f4 f5 f6
    generalize (((((((w3.setCell ⟨w.heap.size + 1, 0, none⟩ (.string (vs p))).setCell ⟨w.heap.size + 1, 1, none⟩ (.slice none 0 0)).setCell ⟨w.heap.size + 1, 2, none⟩ (.slice none 0 0)).setCell ⟨w.heap.size + 1, 3, none⟩ (.slice none 0 0)).setCell ⟨w.heap.size + 1, 4, none⟩ (.int .i32 0)).setCell ⟨w.heap.size + 1, 5, none⟩ (.int .i32 0)).setCell ⟨w.heap.size + 1, 6, none⟩ (.int .u8 1)) = W7 at HS7 HB7 ⊢
    have d0 := HS7.out.cell (i := 0) (by omega)
    have d1 := HS7.out.cell (i := 1) (by omega)
    have d2 := HS7.out.cell (i := 2) (by omega)
    have d3 := HS7.out.cell (i := 3) (by omega)
    have d4 := HS7.out.cell (i := 4) (by omega)
    have d5 := HS7.out.cell (i := 5) (by omega)
    have d6 := HS7.out.cell (i := 6) (by omega)
    simp only [sev] at d0 d1 d2 d3 d4 d5 d6
    exact bodyPost_ret (v := .tuple #[.agg #[.string (vs p), .slice none 0 0, .slice none 0 0, .slice none 0 0, .int .i32 0, .int .i32 0, .int .u8 1], .bool true]) (by simp [results, Try.results16, go_sem, d0, d1, d2, d3, d4, d5, d6]) rfl ⟨_, _, rfl, .yes p HP.out, HB7.out⟩
  | no hn =>
    have HN := Lib.hid hn
    clear hn
    have S7 := seven_row w3 (w.heap.size + 1) 41 _ (.string { data := #[] }) (.slice none 0 0) (.slice none 0 0) (.slice none 0 0) (.int .i32 0) (.int .i32 0) (.int .u8 0) Q0
    have B7 := hB3.trans ((seven_below w3 (w.heap.size + 1) (.string { data := #[] }) (.slice none 0 0) (.slice none 0 0) (.slice none 0 0) (.int .i32 0) (.int .i32 0) (.int .u8 0)).mono (by omega))
    have c0 := Q0.cell (i := 0) (by omega)
    have f0 := Q0.frozen 0
    have c1 := Q0.cell (i := 1) (by omega)
    have f1 := Q0.frozen 1
    have c2 := Q0.cell (i := 2) (by omega)
    have f2 := Q0.frozen 2
    have c3 := Q0.cell (i := 3) (by omega)
    have f3 := Q0.frozen 3
    have c4 := Q0.cell (i := 4) (by omega)
    have f4 := Q0.frozen 4
    have c5 := Q0.cell (i := 5) (by omega)
    have f5 := Q0.frozen 5
    have c6 := Q0.cell (i := 6) (by omega)
    have f6 := Q0.frozen 6
    simp only [nil7] at c0 c1 c2 c3 c4 c5 c6
    have HS7 := Lib.hid S7; have HB7 := Lib.hid B7
    clear Q0 S7 B7 hB3
    go_wp2
    clear c0 c1 c2 c3 c4 c5 c6 f0 f1 f2 f3 f4 f5 f6
    generalize (((((((w3.setCell ⟨w.heap.size + 1, 0, none⟩ (.string { data := #[] })).setCell ⟨w.heap.size + 1, 1, none⟩ (.slice none 0 0)).setCell ⟨w.heap.size + 1, 2, none⟩ (.slice none 0 0)).setCell ⟨w.heap.size + 1, 3, none⟩ (.slice none 0 0)).setCell ⟨w.heap.size + 1, 4, none⟩ (.int .i32 0)).setCell ⟨w.heap.size + 1, 5, none⟩ (.int .i32 0)).setCell ⟨w.heap.size + 1, 6, none⟩ (.int .u8 0)) = W7 at HS7 HB7 ⊢
    have d0 := HS7.out.cell (i := 0) (by omega)
    have d1 := HS7.out.cell (i := 1) (by omega)
    have d2 := HS7.out.cell (i := 2) (by omega)
    have d3 := HS7.out.cell (i := 3) (by omega)
    have d4 := HS7.out.cell (i := 4) (by omega)
    have d5 := HS7.out.cell (i := 5) (by omega)
    have d6 := HS7.out.cell (i := 6) (by omega)
    simp only [sev] at d0 d1 d2 d3 d4 d5 d6
    exact bodyPost_ret (v := .tuple #[.agg #[.string { data := #[] }, .slice none 0 0, .slice none 0 0, .slice none 0 0, .int .i32 0, .int .i32 0, .int .u8 0], .bool false]) (by simp [results, Try.results16, go_sem, d0, d1, d2, d3, d4, d5, d6]) rfl ⟨_, _, rfl, .no HN.out, HB7.out⟩
theorem kind_any (s : ByteArray) (k : Int) (w : World) (h0 : 0 ≤ k) (h1 : k ≤ 255) : Calls Try.prog 18 #[.agg #[.string s, .slice none 0 0, .slice none 0 0, .slice none 0 0, .int .i32 0, .int .i32 0, .int .u8 k]] w fun e w' => e = .returned (.int .u8 k) ∧ Below w.heap.size w w' := by
  go_enter Try.func18, Try.ntmps18
  go_wp2
  go_ret
  exact ⟨rfl, (Below.refl _ _).alloc (Nat.le_refl _) _⟩
theorem zero_any (w : World) : Calls Try.prog 20 #[.agg #[.string { data := #[] }, .slice none 0 0, .slice none 0 0, .slice none 0 0, .int .i32 0, .int .i32 0, .int .u8 0]] w fun e w' => e = .returned (.bool true) ∧ Below w.heap.size w w' := by
  go_enter Try.func20, Try.ntmps20
  go_wp2_with (first | (go_at_call 18; go_in) | (go_at_call 19; go_in) | (go_at_call 31; go_in) | (go_at_call 32; go_in) | (go_at_call 33; go_in))
  go_ret
  exact ⟨rfl, by go_grown⟩
end Go.Proofs.Ythenbnofpdjimaa.Vk
