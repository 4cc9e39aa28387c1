/- esmParsePackageName by its contract: a refusal with nothing; or the name up to the cut, refused or with its subpath. Condition: at most 2^20 bytes. -/
import Derived.Test.YtjokjiphlacglaaPct
namespace Go.Proofs.Ytjokjiphlacglaa.Pkn
open Go.ChangeShapes Go.WideShapes Go.ChangeAt Go.RowKit Go.Proofs.Ytjokjiphlacglaa.Base Go.Proofs.Ytjokjiphlacglaa.Names Go.Proofs.Ytjokjiphlacglaa.Pct
set_option linter.unusedVariables false
theorem ib_any (s : ByteArray) (v : Int) (w : World) (h : Lib.indexByte s.data.toList 47 = v) : Calls Try.prog 17 #[.string s, .int .u8 47] w fun e w' => e = .returned (.int .i64 v) ∧ w = w' :=
  (Try.strings_IndexByte s 47 w).mono fun e w' ⟨he, hw⟩ => ⟨by rw [he, ← h]; rfl, hw.symm⟩
theorem hp_at (s : ByteArray) (b : Bool) (w : World) (h : Lib.hasPrefix s.data.toList [64] = b) : Calls Try.prog 18 #[.string s, .string { data := #[64] }] w fun e w' => e = .returned (.bool b) ∧ w = w' :=
  (Try.strings_HasPrefix s { data := #[64] } w).mono fun e w' ⟨he, hw⟩ => ⟨by rw [he, ← h], hw.symm⟩
theorem hp_dot (s : ByteArray) (b : Bool) (w : World) (h : Lib.hasPrefix s.data.toList [46] = b) : Calls Try.prog 18 #[.string s, .string { data := #[46] }] w fun e w' => e = .returned (.bool b) ∧ w = w' :=
  (Try.strings_HasPrefix s { data := #[46] } w).mono fun e w' ⟨he, hw⟩ => ⟨by rw [he, ← h], hw.symm⟩
theorem bad_at (s : ByteArray) (b : Bool) (w : World) (hs : s.size ≤ 1048576) (h : badB s = b) : Calls Try.prog 19 #[.string s, .string { data := #[92, 37] }] w fun e w' => e = .returned (.bool b) ∧ Below w.heap.size w w' := by
  rw [← h]; exact contains_any s w hs
def okB (t : ByteArray) : Bool := !(Lib.hasPrefix t.data.toList [46]) && !(badB t)
/-- What esmParsePackageName gives where the name ends at k. -/
def tri (s : ByteArray) (k : Nat) : Value := .tuple #[.string (s.extract 0 k), .string (if okB (s.extract 0 k) then ({ data := #[46] } : ByteArray) ++ s.extract k s.size else { data := #[] }), .bool (okB (s.extract 0 k))]
theorem size_to (s : ByteArray) (k : Nat) (h : k ≤ s.size) : (s.extract 0 k).size = k := by rw [ByteArray.size_extract]; omega
theorem pkg_empty (s : ByteArray) (w : World) (h : s.size = 0) : Calls Try.prog 16 #[.string s] w fun e w' => e = .returned (.tuple #[.string { data := #[] }, .string { data := #[] }, .bool false]) ∧ Below w.heap.size w w' := by
  have he : s.toList = [] := by rw [Lib.toList_data]; exact List.eq_nil_of_length_eq_zero (by rw [len_list]; exact h)
  go_enter Try.func16, Try.ntmps16
  go_wp2
  go_ret3
  exact ⟨rfl, Below.refl _ _⟩
theorem not_empty (s : ByteArray) (h : 0 < s.size) : s.toList.isEmpty = false := by
  rw [Lib.toList_data, List.isEmpty_eq_false_iff]; intro e; have := len_list s; rw [e] at this; simp at this; omega
theorem pkg_no (s : ByteArray) (w : World) (h0 : 0 < s.size) (hs : s.size ≤ 1048576) (h : Lib.hasPrefix s.data.toList [64] = true) (hi : Lib.indexByte s.data.toList 47 = -1) : Calls Try.prog 16 #[.string s] w fun e w' => e = .returned (.tuple #[.string { data := #[] }, .string { data := #[] }, .bool false]) ∧ Below w.heap.size w w' := by
  have C1 := Lib.hid (ib_any s _ w hi)
  have C2 := Lib.hid (hp_at s _ w h)
  have he := not_empty s h0
  have h1 : ((-1 : Int) == -1) = true := by decide
  clear h hi
  go_enter Try.func16, Try.ntmps16
  go_wp2_with fail
  refine C1.out.mono ?_
  rintro e w' ⟨rfl, rfl⟩
  go_wp2_with fail
  refine C2.out.mono ?_
  rintro e w' ⟨rfl, rfl⟩
  go_wp2
  go_ret3
  exact ⟨rfl, Below.refl _ _⟩
set_option maxHeartbeats 600000 in
theorem pkg_plain (s : ByteArray) (w : World) (h0 : 0 < s.size) (hs : s.size ≤ 1048576) (h : Lib.hasPrefix s.data.toList [64] = false) (k : Nat) (H1 : Lib.indexByte s.data.toList 47 = k) (hk : k < s.size) : Calls Try.prog 16 #[.string s] w fun e w' => e = .returned (tri s k) ∧ Below w.heap.size w w' := by
  have he := not_empty s h0
  have C1 := Lib.hid (ib_any s _ w H1)
  have C2 := Lib.hid (hp_at s _ w h)
  have h1 : ((k : Int) == -1) = false := by rw [beq_eq_false_iff_ne]; omega
  clear h H1
  have hks : k ≤ s.size := by omega
  have hsz := size_to s k hks
  have hkz : (s.extract 0 k).size ≤ 1048576 := by omega
  obtain ⟨D, hD⟩ : ∃ D, Lib.hasPrefix (s.extract 0 k).data.toList [46] = D := ⟨_, rfl⟩
  obtain ⟨B, hB⟩ : ∃ B, badB (s.extract 0 k) = B := ⟨_, rfl⟩
  have C4 := Lib.hid (hp_dot (s.extract 0 k) D w hD)
  have C5 := Lib.hid (bad_at (s.extract 0 k) B w hkz hB)
  have HOK := Lib.hid (show okB (s.extract 0 k) = (!D && !B) by unfold okB; rw [hD, hB])
  clear hD hB hkz
  unfold tri
  rw [HOK.out]
  cases D
  · cases B
    · go_enter Try.func16, Try.ntmps16
      go_wp2_with fail
      refine C1.out.mono ?_
      rintro e w' ⟨rfl, rfl⟩
      go_wp2_with fail
      refine C2.out.mono ?_
      rintro e w' ⟨rfl, rfl⟩
      go_wp2_with fail
      refine C4.out.mono ?_
      rintro e w' ⟨rfl, rfl⟩
      go_wp2_with fail
      refine C5.out.mono ?_
      rintro e w5 ⟨rfl, hb5⟩
      have HB5 := Lib.hid hb5
      clear hb5
      go_wp2
      go_ret3
      exact ⟨rfl, HB5.out⟩
    · go_enter Try.func16, Try.ntmps16
      go_wp2_with fail
      refine C1.out.mono ?_
      rintro e w' ⟨rfl, rfl⟩
      go_wp2_with fail
      refine C2.out.mono ?_
      rintro e w' ⟨rfl, rfl⟩
      go_wp2_with fail
      refine C4.out.mono ?_
      rintro e w' ⟨rfl, rfl⟩
      go_wp2_with fail
      refine C5.out.mono ?_
      rintro e w5 ⟨rfl, hb5⟩
      have HB5 := Lib.hid hb5
      clear hb5
      go_wp2
      go_ret3
      exact ⟨rfl, HB5.out⟩
  · go_enter Try.func16, Try.ntmps16
    go_wp2_with fail
    refine C1.out.mono ?_
    rintro e w' ⟨rfl, rfl⟩
    go_wp2_with fail
    refine C2.out.mono ?_
    rintro e w' ⟨rfl, rfl⟩
    go_wp2_with fail
    refine C4.out.mono ?_
    rintro e w' ⟨rfl, rfl⟩
    go_wp2
    go_ret3
    exact ⟨rfl, Below.refl _ _⟩
set_option maxHeartbeats 600000 in
theorem pkg_plain_end (s : ByteArray) (w : World) (h0 : 0 < s.size) (hs : s.size ≤ 1048576) (h : Lib.hasPrefix s.data.toList [64] = false) (k : Nat) (H1 : Lib.indexByte s.data.toList 47 = -1) (hk : s.size = k) : Calls Try.prog 16 #[.string s] w fun e w' => e = .returned (tri s k) ∧ Below w.heap.size w w' := by
  have he := not_empty s h0
  have C1 := Lib.hid (ib_any s _ w H1)
  have C2 := Lib.hid (hp_at s _ w h)
  have h1 : ((-1 : Int) == -1) = true := by decide
  clear h H1
  have hks : k ≤ s.size := by omega
  have hsz := size_to s k hks
  have hkz : (s.extract 0 k).size ≤ 1048576 := by omega
  obtain ⟨D, hD⟩ : ∃ D, Lib.hasPrefix (s.extract 0 k).data.toList [46] = D := ⟨_, rfl⟩
  obtain ⟨B, hB⟩ : ∃ B, badB (s.extract 0 k) = B := ⟨_, rfl⟩
  have C4 := Lib.hid (hp_dot (s.extract 0 k) D w hD)
  have C5 := Lib.hid (bad_at (s.extract 0 k) B w hkz hB)
  have HOK := Lib.hid (show okB (s.extract 0 k) = (!D && !B) by unfold okB; rw [hD, hB])
  clear hD hB hkz
  unfold tri
  rw [HOK.out]
  cases D
  · cases B
    · go_enter Try.func16, Try.ntmps16
      go_wp2_with fail
      refine C1.out.mono ?_
      rintro e w' ⟨rfl, rfl⟩
      go_wp2_with fail
      refine C2.out.mono ?_
      rintro e w' ⟨rfl, rfl⟩
      go_wp2_with fail
      refine C4.out.mono ?_
      rintro e w' ⟨rfl, rfl⟩
      go_wp2_with fail
      refine C5.out.mono ?_
      rintro e w5 ⟨rfl, hb5⟩
      have HB5 := Lib.hid hb5
      clear hb5
      go_wp2
      go_ret3
      exact ⟨rfl, HB5.out⟩
    · go_enter Try.func16, Try.ntmps16
      go_wp2_with fail
      refine C1.out.mono ?_
      rintro e w' ⟨rfl, rfl⟩
      go_wp2_with fail
      refine C2.out.mono ?_
      rintro e w' ⟨rfl, rfl⟩
      go_wp2_with fail
      refine C4.out.mono ?_
      rintro e w' ⟨rfl, rfl⟩
      go_wp2_with fail
      refine C5.out.mono ?_
      rintro e w5 ⟨rfl, hb5⟩
      have HB5 := Lib.hid hb5
      clear hb5
      go_wp2
      go_ret3
      exact ⟨rfl, HB5.out⟩
  · go_enter Try.func16, Try.ntmps16
    go_wp2_with fail
    refine C1.out.mono ?_
    rintro e w' ⟨rfl, rfl⟩
    go_wp2_with fail
    refine C2.out.mono ?_
    rintro e w' ⟨rfl, rfl⟩
    go_wp2_with fail
    refine C4.out.mono ?_
    rintro e w' ⟨rfl, rfl⟩
    go_wp2
    go_ret3
    exact ⟨rfl, Below.refl _ _⟩
set_option maxHeartbeats 600000 in
theorem pkg_scoped (s : ByteArray) (w : World) (h0 : 0 < s.size) (hs : s.size ≤ 1048576) (h : Lib.hasPrefix s.data.toList [64] = true) (i j k : Nat) (H1 : Lib.indexByte s.data.toList 47 = i) (H2 : Lib.indexByte (s.extract (i + 1) s.size).data.toList 47 = j) (hi : i < s.size) (hk : i + 1 + j < s.size) (hkk : k = i + 1 + j) : Calls Try.prog 16 #[.string s] w fun e w' => e = .returned (tri s k) ∧ Below w.heap.size w w' := by
  have he := not_empty s h0
  have C1 := Lib.hid (ib_any s _ w H1)
  have C2 := Lib.hid (hp_at s _ w h)
  have C3 := Lib.hid (ib_any (s.extract (i + 1) s.size) _ w H2)
  have h1 : ((i : Int) == -1) = false := by rw [beq_eq_false_iff_ne]; omega
  have h2 : ((j : Int) == -1) = false := by rw [beq_eq_false_iff_ne]; omega
  subst hkk
  clear h H1 H2
  have hks : i + 1 + j ≤ s.size := by omega
  have hsz := size_to s (i + 1 + j) hks
  have hkz : (s.extract 0 (i + 1 + j)).size ≤ 1048576 := by omega
  obtain ⟨D, hD⟩ : ∃ D, Lib.hasPrefix (s.extract 0 (i + 1 + j)).data.toList [46] = D := ⟨_, rfl⟩
  obtain ⟨B, hB⟩ : ∃ B, badB (s.extract 0 (i + 1 + j)) = B := ⟨_, rfl⟩
  have C4 := Lib.hid (hp_dot (s.extract 0 (i + 1 + j)) D w hD)
  have C5 := Lib.hid (bad_at (s.extract 0 (i + 1 + j)) B w hkz hB)
  have HOK := Lib.hid (show okB (s.extract 0 (i + 1 + j)) = (!D && !B) by unfold okB; rw [hD, hB])
  clear hD hB hkz
  unfold tri
  rw [HOK.out]
  cases D
  · cases B
    · go_enter Try.func16, Try.ntmps16
      go_wp2_with fail
      refine C1.out.mono ?_
      rintro e w' ⟨rfl, rfl⟩
      go_wp2_with fail
      refine C2.out.mono ?_
      rintro e w' ⟨rfl, rfl⟩
      go_wp2_with fail
      refine C3.out.mono ?_
      rintro e w' ⟨rfl, rfl⟩
      go_wp2_with fail
      refine C4.out.mono ?_
      rintro e w' ⟨rfl, rfl⟩
      go_wp2_with fail
      refine C5.out.mono ?_
      rintro e w5 ⟨rfl, hb5⟩
      have HB5 := Lib.hid hb5
      clear hb5
      go_wp2
      go_ret3
      exact ⟨rfl, HB5.out⟩
    · go_enter Try.func16, Try.ntmps16
      go_wp2_with fail
      refine C1.out.mono ?_
      rintro e w' ⟨rfl, rfl⟩
      go_wp2_with fail
      refine C2.out.mono ?_
      rintro e w' ⟨rfl, rfl⟩
      go_wp2_with fail
      refine C3.out.mono ?_
      rintro e w' ⟨rfl, rfl⟩
      go_wp2_with fail
      refine C4.out.mono ?_
      rintro e w' ⟨rfl, rfl⟩
      go_wp2_with fail
      refine C5.out.mono ?_
      rintro e w5 ⟨rfl, hb5⟩
      have HB5 := Lib.hid hb5
      clear hb5
      go_wp2
      go_ret3
      exact ⟨rfl, HB5.out⟩
  · go_enter Try.func16, Try.ntmps16
    go_wp2_with fail
    refine C1.out.mono ?_
    rintro e w' ⟨rfl, rfl⟩
    go_wp2_with fail
    refine C2.out.mono ?_
    rintro e w' ⟨rfl, rfl⟩
    go_wp2_with fail
    refine C3.out.mono ?_
    rintro e w' ⟨rfl, rfl⟩
    go_wp2_with fail
    refine C4.out.mono ?_
    rintro e w' ⟨rfl, rfl⟩
    go_wp2
    go_ret3
    exact ⟨rfl, Below.refl _ _⟩
set_option maxHeartbeats 600000 in
theorem pkg_scoped_end (s : ByteArray) (w : World) (h0 : 0 < s.size) (hs : s.size ≤ 1048576) (h : Lib.hasPrefix s.data.toList [64] = true) (i k : Nat) (H1 : Lib.indexByte s.data.toList 47 = i) (H2 : Lib.indexByte (s.extract (i + 1) s.size).data.toList 47 = -1) (hi : i < s.size) (hk : s.size = k) : Calls Try.prog 16 #[.string s] w fun e w' => e = .returned (tri s k) ∧ Below w.heap.size w w' := by
  have he := not_empty s h0
  have C1 := Lib.hid (ib_any s _ w H1)
  have C2 := Lib.hid (hp_at s _ w h)
  rw [hk] at H2
  have C3 := Lib.hid (ib_any (s.extract (i + 1) k) _ w H2)
  have h1 : ((i : Int) == -1) = false := by rw [beq_eq_false_iff_ne]; omega
  have h2 : ((-1 : Int) == -1) = true := by decide
  have e5 : i + 1 + (k - (i + 1)) = k := by omega
  have hz2 : (s.extract (i + 1) k).size = k - (i + 1) := by rw [ByteArray.size_extract]; omega
  clear h H1 H2
  have hks : k ≤ s.size := by omega
  have hsz := size_to s k hks
  have hkz : (s.extract 0 k).size ≤ 1048576 := by omega
  obtain ⟨D, hD⟩ : ∃ D, Lib.hasPrefix (s.extract 0 k).data.toList [46] = D := ⟨_, rfl⟩
  obtain ⟨B, hB⟩ : ∃ B, badB (s.extract 0 k) = B := ⟨_, rfl⟩
  have C4 := Lib.hid (hp_dot (s.extract 0 k) D w hD)
  have C5 := Lib.hid (bad_at (s.extract 0 k) B w hkz hB)
  have HOK := Lib.hid (show okB (s.extract 0 k) = (!D && !B) by unfold okB; rw [hD, hB])
  clear hD hB hkz
  unfold tri
  rw [HOK.out]
  cases D
  · cases B
    · go_enter Try.func16, Try.ntmps16
      go_wp2_with fail
      refine C1.out.mono ?_
      rintro e w' ⟨rfl, rfl⟩
      go_wp2_with fail
      refine C2.out.mono ?_
      rintro e w' ⟨rfl, rfl⟩
      go_wp2_with fail
      refine C3.out.mono ?_
      rintro e w' ⟨rfl, rfl⟩
      go_wp2_with fail
      refine C4.out.mono ?_
      rintro e w' ⟨rfl, rfl⟩
      go_wp2_with fail
      refine C5.out.mono ?_
      rintro e w5 ⟨rfl, hb5⟩
      have HB5 := Lib.hid hb5
      clear hb5
      go_wp2
      go_ret3
      exact ⟨rfl, HB5.out⟩
    · go_enter Try.func16, Try.ntmps16
      go_wp2_with fail
      refine C1.out.mono ?_
      rintro e w' ⟨rfl, rfl⟩
      go_wp2_with fail
      refine C2.out.mono ?_
      rintro e w' ⟨rfl, rfl⟩
      go_wp2_with fail
      refine C3.out.mono ?_
      rintro e w' ⟨rfl, rfl⟩
      go_wp2_with fail
      refine C4.out.mono ?_
      rintro e w' ⟨rfl, rfl⟩
      go_wp2_with fail
      refine C5.out.mono ?_
      rintro e w5 ⟨rfl, hb5⟩
      have HB5 := Lib.hid hb5
      clear hb5
      go_wp2
      go_ret3
      exact ⟨rfl, HB5.out⟩
  · go_enter Try.func16, Try.ntmps16
    go_wp2_with fail
    refine C1.out.mono ?_
    rintro e w' ⟨rfl, rfl⟩
    go_wp2_with fail
    refine C2.out.mono ?_
    rintro e w' ⟨rfl, rfl⟩
    go_wp2_with fail
    refine C3.out.mono ?_
    rintro e w' ⟨rfl, rfl⟩
    go_wp2_with fail
    refine C4.out.mono ?_
    rintro e w' ⟨rfl, rfl⟩
    go_wp2
    go_ret3
    exact ⟨rfl, Below.refl _ _⟩
end Go.Proofs.Ytjokjiphlacglaa.Pkn
