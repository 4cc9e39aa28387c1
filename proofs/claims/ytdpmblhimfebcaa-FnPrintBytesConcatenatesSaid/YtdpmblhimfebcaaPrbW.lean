/- The walk of the law FnPrintBytesConcatenates: it returns true for every three slices of bytes. No condition. -/
import Derived.Test.YtdpmblhimfebcaaPrA
namespace Go.Proofs.Ytdpmblhimfebcaa.fnPrintBytesConcatenates
open Go.ChangeShapes Go.WideShapes Go.ChangeAt Go.RowKit Go.Deep Go.Proofs.Ytdpmblhimfebcaa.Base Go.Proofs.Ytdpmblhimfebcaa.Bts Go.Proofs.Ytdpmblhimfebcaa.Pr
set_option linter.unusedVariables false
theorem bytes_yes (A B C : Option Addr) (n m k c d e : Nat) (w : World) (h : n + m + k ≤ 1048576) : Calls Try.prog 9 #[.slice A n c, .slice B m d, .slice C k e] w fun e w' => e = .returned (.bool true) ∧ w = w' := by
  go_enter Try.func9, Try.ntmps9
  go_wp2
  go_ret
  exact ⟨rfl, rfl⟩
theorem bytes_no (A B C : Option Addr) (n m k c d e : Nat) (w : World) (hn : n ≤ maxLen) (hm : m ≤ maxLen) (hk : k ≤ maxLen) (h : 1048576 < n + m + k) : Calls Try.prog 9 #[.slice A n c, .slice B m d, .slice C k e] w fun e w' => e = .returned (.bool false) ∧ w = w' := by
  unfold maxLen at hn hm hk
  by_cases h1 : n ≤ 1048576
  · by_cases h2 : m ≤ 1048576
    · by_cases h3 : n + m ≤ 1048576
      · by_cases h4 : k ≤ 1048576
        all_goals
          go_enter Try.func9, Try.ntmps9
          go_wp2
          go_ret
          exact ⟨rfl, rfl⟩
      · go_enter Try.func9, Try.ntmps9
        go_wp2
        go_ret
        exact ⟨rfl, rfl⟩
    · go_enter Try.func9, Try.ntmps9
      go_wp2
      go_ret
      exact ⟨rfl, rfl⟩
  · go_enter Try.func9, Try.ntmps9
    go_wp2
    go_ret
    exact ⟨rfl, rfl⟩
theorem make_any (N : Nat) (i : Int) (hi : i = (N : Int)) (h : N ≤ 1048576) (W : World) : (Instr.makeSlice 28 (.int .i64 0) (.int .i64 i)).run Try.prog W = .ok (.slice (some ⟨W.heap.size, 0, none⟩) 0 N) (W.alloc (.cells (madeCells #[.int .u8 0] N) 5)) := by
  subst hi
  obtain ⟨i0, hi, hz0, hz1, hz2⟩ := info_parts infoE
  have := run_make (P := Try.prog) W 28 5 i0 _ Try.underlying28 hi hz0 .i64 .i64 0 (N : Int) (by omega) (by omega) (by rw [hz2]; omega) (by omega)
  rw [hz1] at this
  simp only [Int.toNat_natCast, Int.toNat_zero, Nat.mul_one] at this
  exact this
set_option maxHeartbeats 1000000 in
theorem in_range (A0 A1 A2 : Option Addr) (n0 n1 n2 c0 c1 c2 : Nat) (l0 l1 l2 : List UInt8) (w : World) (L0 : l0.length = n0) (L1 : l1.length = n1) (L2 : l2.length = n2) (hz : n0 + n1 + n2 ≤ 1048576)
    (e0 : A0 = none → n0 = 0 ∧ c0 = 0) (e1 : A1 = none → n1 = 0 ∧ c1 = 0) (e2 : A2 = none → n2 = 0 ∧ c2 = 0) (r0 : Rd w w.heap.size A0 l0) (r1 : Rd w w.heap.size A1 l1) (r2 : Rd w w.heap.size A2 l2) :
    Calls Try.prog 4 #[.slice A0 n0 c0, .slice A1 n1 c1, .slice A2 n2 c2] w fun e w' => e = .returned (.bool true) ∧ Below w.heap.size w w' := by
  have HL0 := Lib.hid L0; have HL1 := Lib.hid L1; have HL2 := Lib.hid L2
  have C0 := Lib.hid (clone_any A0 n0 c0 l0 w L0 (by omega) e0 r0)
  have C1 := fun (W : World) (hb : Below w.heap.size w W) => Lib.hid (clone_any A1 n1 c1 l1 W L1 (by omega) e1 ((r1.below hb).up hb.size))
  have C2 := fun (W : World) (hb : Below w.heap.size w W) => Lib.hid (clone_any A2 n2 c2 l2 W L2 (by omega) e2 ((r2.below hb).up hb.size))
  have K1 := Lib.hid C1; have K2 := Lib.hid C2
  have hmk := make_any (n0 + n1 + n2) ((n0 : Int) + n1 + n2) (by omega) hz
  have y1 := Lib.hid (bytes_yes A0 A1 A2 n0 n1 n2 c0 c1 c2 w hz)
  clear C1 C2 r0 r1 r2 e0 e1 e2 L0 L1 L2
  go_enter Try.func4, Try.ntmps4
  go_wp2_with fail
  refine y1.out.mono ?_
  rintro e w' ⟨rfl, rfl⟩
  go_wp2_with fail
  refine C0.out.mono ?_
  rintro e w1 ⟨A0', c0', rfl, O0, b1⟩
  have C1 := K1.out w1 b1
  have hO0 := Lib.hid O0; have hb1 := Lib.hid b1
  clear O0 b1
  go_wp2_with fail
  refine C1.out.mono ?_
  rintro e w2 ⟨A1', c1', rfl, O1, b2⟩
  have B02 := below_join hb1.out hb1.out.size b2
  have C2 := K2.out w2 B02
  have hO1 := Lib.hid O1; have hb2 := Lib.hid b2; have hB02 := Lib.hid B02
  clear O1 b2 B02
  go_wp2_with fail
  refine C2.out.mono ?_
  rintro e w3 ⟨A2', c2', rfl, O2, b3⟩
  have hO2 := Lib.hid O2; have hb3 := Lib.hid b3
  have hB03 := Lib.hid (below_join hB02.out hB02.out.size b3)
  clear O2 b3
  go_wp2_with fail
  clear hmk
  have b4 : Below w3.heap.size w3 (w3.alloc (.cells (madeCells #[.int .u8 0] (n0 + n1 + n2)) 5)) := (Below.refl _ _).alloc (Nat.le_refl _) _
  have O4 : Own (w3.alloc (.cells (madeCells #[.int .u8 0] (n0 + n1 + n2)) 5)) w3.heap.size (.slice (some ⟨w3.heap.size, 0, none⟩) 0 (n0 + n1 + n2)) [] := World.ownsRow_made w3 _ _ (Nat.le_refl _) (by unfold maxLen; omega) (by rw [size_madeCells, Nat.mul_one])
  generalize w3.alloc (.cells (madeCells #[.int .u8 0] (n0 + n1 + n2)) 5) = w4 at b4 O4 ⊢
  have K0 : Own w4 w.heap.size (.slice A0' n0 c0') l0 := ((hO0.out.keep hb2.out).keep hb3.out).keep b4
  have K1' : Own w4 w1.heap.size (.slice A1' n1 c1') l1 := (hO1.out.keep hb3.out).keep b4
  have K2' : Own w4 w2.heap.size (.slice A2' n2 c2') l2 := hO2.out.keep b4
  have r0 : Rd w4 w3.heap.size A0' l0 := by
    have := (hO0.out.keep hb2.out).keep hb3.out
    rw [← HL0.out] at this
    exact this.rd.below b4
  have r1 : Rd w4 w3.heap.size A1' l1 := by
    have := hO1.out.keep hb3.out
    rw [← HL1.out] at this
    exact this.rd.below b4
  have r2 : Rd w4 w3.heap.size A2' l2 := by
    have := hO2.out
    rw [← HL2.out] at this
    exact this.rd.below b4
  have P1 := Lib.hid (app_any (some ⟨w3.heap.size, 0, none⟩) A0' 0 n0 (n0 + n1 + n2) c0' w3.heap.size [] l0 w4 rfl HL0.out (by omega) O4 b4.size r0)
  have HR1 := Lib.hid r1; have HR2 := Lib.hid r2; have hb4 := Lib.hid b4
  have hK0 := Lib.hid K0; have hK1 := Lib.hid K1'; have hK2 := Lib.hid K2'
  have hz12 := hb1.out.size; have hz23 := hb2.out.size; have hz34 := hb3.out.size; have hz4 := b4.size
  clear r0 r1 r2 K0 K1' K2' b4 O4
  refine P1.out.mono ?_
  rintro e w5 ⟨A5, c5, rfl, O5, b5⟩
  rw [Nat.zero_add, List.nil_append] at O5
  rw [Nat.zero_add]
  have z5 := b5.size
  have P2 := Lib.hid (app_any A5 A1' n0 n1 c5 c1' w3.heap.size l0 l1 w5 HL0.out HL1.out (by omega) O5 (by omega) (HR1.out.below b5))
  have hb5 := Lib.hid (hb4.out.trans b5)
  have HR3 := Lib.hid (HR2.out.below b5)
  clear O5 b5
  go_wp2_with fail
  refine P2.out.mono ?_
  rintro e w6 ⟨A6, c6, rfl, O6, b6⟩
  have z6 := b6.size
  have hl01 : (l0 ++ l1).length = n0 + n1 := by rw [List.length_append, HL0.out, HL1.out]
  have hl012 : (l0 ++ l1 ++ l2).length = n0 + n1 + n2 := by rw [List.length_append, hl01, HL2.out]
  have HL01 := Lib.hid hl01; have HL012 := Lib.hid hl012
  clear hl01 hl012
  have P3 := Lib.hid (app_any A6 A2' (n0 + n1) n2 c6 c2' w3.heap.size (l0 ++ l1) l2 w6 HL01.out HL2.out (by omega) O6 (by omega) (HR3.out.below b6))
  have hb6 := Lib.hid (hb5.out.trans b6)
  clear O6 b6
  go_wp2_with fail
  refine P3.out.mono ?_
  rintro e w7 ⟨A7, c7, rfl, O7, b7⟩
  have z7 := b7.size
  have hb7 := Lib.hid (hb6.out.trans b7)
  have hO7 := Lib.hid O7
  clear O7 b7
  go_wp2_with fail
  refine (new_any A0' n0 c0' w7).mono ?_
  rintro e w8 ⟨rfl, p8, b8⟩
  have z8 := p8.lt
  have b78 : Below w3.heap.size w3 w8 := below_join hb7.out (by omega) b8
  have Q0 : Own w8 w.heap.size (.slice A0' n0 c0') l0 := ((hO0.out.keep hb2.out).keep hb3.out).keep b78
  have Q1 : Own w8 w1.heap.size (.slice A1' n1 c1') l1 := (hO1.out.keep hb3.out).keep b78
  have Q2 : Own w8 w2.heap.size (.slice A2' n2 c2') l2 := hO2.out.keep b78
  have Q7 := hO7.out.keep b8
  have R1 : Rd w8 w8.heap.size A1' l1 := by
    have := Q1
    rw [← HL1.out] at this
    exact this.rd
  have P4 := Lib.hid (print_any w7.heap.size w.heap.size w8.heap.size A0' A1' n0 n1 c0' c1' l0 l1 w8 HL0.out HL1.out (by omega) p8 Q0 (by have := hb1.out.size; omega) R1)
  have G0 : ∀ g, (Value.slice A0' n0 c0').ownBlock = some g → w.heap.size ≤ g ∧ g < w1.heap.size := World.ownsRow.lt hO0.out
  have G2 : ∀ g, (Value.slice A2' n2 c2').ownBlock = some g → w2.heap.size ≤ g ∧ g < w8.heap.size := World.ownsRow.lt Q2
  have G7 : ∀ g, (Value.slice A7 (n0 + n1 + n2) c7).ownBlock = some g → w3.heap.size ≤ g ∧ g < w8.heap.size := World.ownsRow.lt Q7
  have E2 := own_ne p8 Q2
  have E7 := own_ne p8 Q7
  have hp8 := Lib.hid p8; have hQ2 := Lib.hid Q2; have hQ7 := Lib.hid Q7; have HG0 := Lib.hid G0; have HG2 := Lib.hid G2; have HG7 := Lib.hid G7; have HE2 := Lib.hid E2; have HE7 := Lib.hid E7; have HB8 := Lib.hid b78
  clear p8 Q0 Q1 Q2 Q7 R1 G0 G2 G7 E2 E7 b8 b78
  go_wp2_with fail
  refine P4.out.mono ?_
  rintro e w9 ⟨rfl, A9, c9, p9, O9, T9, at9⟩
  have S2 : Own w9 w2.heap.size (.slice A2' n2 c2') l2 := T9.own hQ2.out (by
    rcases h : (Value.slice A2' n2 c2').ownBlock with _ | g
    · exact .inl rfl
    · refine .inr fun e => ?_
      have := HG2.out g h; have := HG0.out g e.symm; omega) HE2.out
  have S7 : Own w9 w3.heap.size (.slice A7 (n0 + n1 + n2) c7) (l0 ++ l1 ++ l2) := T9.own hQ7.out (by
    rcases h : (Value.slice A7 (n0 + n1 + n2) c7).ownBlock with _ | g
    · exact .inl rfl
    · refine .inr fun e => ?_
      have := HG7.out g h; have := HG0.out g e.symm; omega) HE7.out
  have z9 := T9.size
  have hbw : w.heap.size ≤ w1.heap.size := hb1.out.size
  have B9 : Below w.heap.size w w9 := (hB03.out.trans (HB8.out.mono (by omega))).trans (T9.below (by omega) (fun g e => (HG0.out g e).1) (by omega))
  have R2 : Rd w9 w9.heap.size A2' l2 := by
    have := S2
    rw [← HL2.out] at this
    exact this.rd
  have J9 := Lib.hid (js_any w7.heap.size A9 (n0 + n1) c9 w9 p9)
  have P5 := Lib.hid (print_any w7.heap.size w.heap.size w9.heap.size A9 A2' (n0 + n1) n2 c9 c2' (l0 ++ l1) l2 w9 HL01.out HL2.out (by omega) p9 O9 (by omega) R2)
  have G9 : ∀ g, (Value.slice A9 (n0 + n1) c9).ownBlock = some g → w.heap.size ≤ g ∧ (g < w1.heap.size ∨ g = w8.heap.size) := fun g e => by
    rcases at9 with h | h
    · rw [h] at e; have := HG0.out g e; exact ⟨this.1, .inl this.2⟩
    · rw [h] at e; injection e with e; subst e; exact ⟨by omega, .inr rfl⟩
  have E7 := own_ne p9 S7
  have hS7 := Lib.hid S7; have HG9 := Lib.hid G9; have HE7' := Lib.hid E7; have HB9 := Lib.hid B9
  have neq1 : (((n0 + n1 : Nat) : Int) != ((n0 + n1 + n2 : Nat) : Int) - (n2 : Int)) = false := by rw [bne_eq_false_iff_eq]; omega
  have neq2 : ((n0 : Int) + n1 != (n0 : Int) + n1 + n2 - (n2 : Int)) = false := by rw [bne_eq_false_iff_eq]; omega
  clear p9 O9 T9 at9 S2 S7 B9 R2 G9 E7
  go_wp2_with fail
  refine J9.out.mono ?_
  rintro e w' ⟨rfl, rfl⟩
  go_wp2_with fail
  clear neq1 neq2
  refine P5.out.mono ?_
  rintro e w10 ⟨rfl, A10, c10, p10, O10, T10, at10⟩
  have S7 : Own w10 w3.heap.size (.slice A7 (n0 + n1 + n2) c7) (l0 ++ l1 ++ l2) := T10.own hS7.out (by
    rcases h : (Value.slice A7 (n0 + n1 + n2) c7).ownBlock with _ | g
    · exact .inl rfl
    · refine .inr fun e => ?_
      have := HG7.out g h; have := HG9.out g e.symm; omega) HE7'.out
  have B10 := HB9.out.trans (T10.below (B := w.heap.size) (by omega) (fun g e => (HG9.out g e).1) (by omega))
  have J10 := Lib.hid (js_any w7.heap.size A10 (n0 + n1 + n2) c10 w10 p10)
  have R7 : Rd w10 w10.heap.size A7 (l0 ++ l1 ++ l2) := by
    have := S7
    rw [← HL012.out] at this
    exact this.rd
  have R10 : Rd w10 w10.heap.size A10 (l0 ++ l1 ++ l2) := by
    have := O10
    rw [← HL012.out] at this
    exact this.rd
  have EQ := Lib.hid (equal_any A10 A7 (n0 + n1 + n2) c10 c7 (l0 ++ l1 ++ l2) w10 HL012.out (by omega) R10 R7)
  have HB10 := Lib.hid B10
  clear p10 O10 T10 at10 S7 B10 R7 R10
  go_wp2_with fail
  refine J10.out.mono ?_
  rintro e w' ⟨rfl, rfl⟩
  go_wp2_with fail
  refine EQ.out.mono ?_
  rintro e w' ⟨rfl, k, rfl⟩
  go_wp2
  go_ret
  exact ⟨rfl, below_draws HB10.out k⟩
theorem walk (a0 : Option Addr) (len0 cap0 : Nat) (z0 : List Int) (a1 : Option Addr) (len1 cap1 : Nat) (z1 : List Int) (a2 : Option Addr) (len2 cap2 : Nat) (z2 : List Int) (w : World) (w0 : IsRow .u8 w a0 len0 cap0 z0) (w1 : IsRow .u8 w a1 len1 cap1 z1) (w2 : IsRow .u8 w a2 len2 cap2 z2) :
    Calls Try.prog 4 #[.slice a0 len0 cap0, .slice a1 len1 cap1, .slice a2 len2 cap2] w fun e w' => e = .returned (.bool true) ∧ Below w.heap.size w w' := by
  have nil_of : ∀ {a : Option Addr} {n c : Nat} {z : List Int}, IsRow .u8 w a n c z → (a = none → n = 0 ∧ c = 0) ∧ n ≤ maxLen := by
    rintro a n c z (⟨rfl, rfl, rfl, rfl⟩ | ⟨x, rfl, h1, h2, _⟩)
    · exact ⟨fun _ => ⟨rfl, rfl⟩, by omega⟩
    · exact ⟨(fun h => by cases h), by omega⟩
  by_cases hz : len0 + len1 + len2 ≤ 1048576
  · obtain ⟨l0, L0, r0⟩ := rd_of_row w0
    obtain ⟨l1, L1, r1⟩ := rd_of_row w1
    obtain ⟨l2, L2, r2⟩ := rd_of_row w2
    exact in_range a0 a1 a2 len0 len1 len2 cap0 cap1 cap2 l0 l1 l2 w L0 L1 L2 hz (nil_of w0).1 (nil_of w1).1 (nil_of w2).1 r0 r1 r2
  · have H := Lib.hid (bytes_no a0 a1 a2 len0 len1 len2 cap0 cap1 cap2 w (nil_of w0).2 (nil_of w1).2 (nil_of w2).2 (by omega))
    clear w0 w1 w2 hz nil_of
    go_enter Try.func4, Try.ntmps4
    go_wp2_with fail
    refine H.out.mono ?_
    rintro e w' ⟨rfl, rfl⟩
    go_wp2
    go_ret
    exact ⟨rfl, Below.refl _ _⟩
end Go.Proofs.Ytdpmblhimfebcaa.fnPrintBytesConcatenates
