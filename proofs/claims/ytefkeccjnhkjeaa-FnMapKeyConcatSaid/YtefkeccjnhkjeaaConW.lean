/- The walk of the law FnMapKeyConcat: it returns true for every two slices of strings. No condition. -/
import Derived.Test.YtefkeccjnhkjeaaBds
import Derived.Deep.DeepCutAuto
namespace Go.Proofs.Ytefkeccjnhkjeaa.fnMapKeyConcat
open Go.ChangeShapes Go.WideShapes Go.ChangeAt Go.RowKit Go.Deep Go.Proofs.Ytefkeccjnhkjeaa.Base Go.Proofs.Ytefkeccjnhkjeaa.Sls Go.Proofs.Ytefkeccjnhkjeaa.Bld Go.Proofs.Ytefkeccjnhkjeaa.Key Go.Proofs.Ytefkeccjnhkjeaa.Bds
set_option linter.unusedVariables false
theorem infoS : (Try.prog.info? 9).map (fun i => (i.zero, i.size, i.bytes)) = some (some (.string { data := #[] }), 1, 16) := by kernel_rfl
theorem sizeS : (Try.prog.info? 9).map (·.size) = some 1 := by kernel_rfl
theorem make_any (N : Nat) (i : Int) (hi : i = (N : Int)) (h : N ≤ 2097152) (W : World) : (Instr.makeSlice 22 (.int .i64 0) (.int .i64 i)).run Try.prog W = .ok (.slice (some ⟨W.heap.size, 0, none⟩) 0 N) (W.alloc (.cells (madeCells #[.string { data := #[] }] N) 9)) := by
  subst hi
  obtain ⟨i0, hi, hz0, hz1, hz2⟩ := info_parts infoS
  have := run_make (P := Try.prog) W 22 9 i0 _ Try.underlying22 hi hz0 .i64 .i64 0 (N : Int) (by omega) (by omega) (by rw [hz2]; omega) (by omega)
  rw [hz1] at this
  simp only [Int.toNat_natCast, Int.toNat_zero, Nat.mul_one] at this
  exact this
set_option maxHeartbeats 1000000 in
theorem in_range (A0 A1 : Option Addr) (n0 n1 c0 c1 : Nat) (l0 l1 : List ByteArray) (w : World) (L0 : l0.length = n0) (L1 : l1.length = n1) (hz : n0 + tot l0 + (n1 + tot l1) ≤ 1048576)
    (e0 : A0 = none → n0 = 0 ∧ c0 = 0) (e1 : A1 = none → n1 = 0 ∧ c1 = 0) (r0 : Rd w w.heap.size A0 (sv l0)) (r1 : Rd w w.heap.size A1 (sv l1))
    (hy : Calls Try.prog 5 #[.slice A0 n0 c0, .slice A1 n1 c1] w (Bd (n0 + tot l0 + (n1 + tot l1) ≤ 1048576) w)) :
    Calls Try.prog 3 #[.slice A0 n0 c0, .slice A1 n1 c1] w fun e w' => e = .returned (.bool true) ∧ Below w.heap.size w w' := by
  have Y := Lib.hid hy
  have S0 := Lib.hid (sum_any A0 n0 c0 l0 w L0 (by omega) r0)
  have S1 := Lib.hid (sum_any A1 n1 c1 l1 w L1 (by omega) r1)
  have hn0 : n0 ≤ 1048576 := by omega
  have hn1 : n1 ≤ 1048576 := by omega
  have HZ := Lib.hid hz
  obtain ⟨T0, hT0⟩ : ∃ T, T = tot l0 := ⟨_, rfl⟩
  obtain ⟨T1, hT1⟩ : ∃ T, T = tot l1 := ⟨_, rfl⟩
  rw [← hT0] at S0 hz
  rw [← hT1] at S1 hz
  have HL0 := Lib.hid L0; have HL1 := Lib.hid L1; have R0 := Lib.hid r0; have R1 := Lib.hid r1; have E0 := Lib.hid e0; have E1 := Lib.hid e1
  clear hy L0 L1 r0 r1 e0 e1 hT0 hT1
  have hmk := make_any (n0 + n1) ((n0 : Int) + n1) (by omega) (by omega)
  have hmk0 := fun W => run_make_row' (P := Try.prog) 22 9 (.string { data := #[] }) 16 Try.underlying22 infoS rfl .i64 .i64 n0 (by omega) (by omega) W
  have hmk1 := fun W => run_make_row' (P := Try.prog) 22 9 (.string { data := #[] }) 16 Try.underlying22 infoS rfl .i64 .i64 n1 (by omega) (by omega) W
  have hnl := fun (W : World) (a : Option Addr) (n c : Nat) => run_neq_slice_nil_any (P := Try.prog) W 22 9 a n c 0 0 Try.underlying22
  go_enter Try.func3, Try.ntmps3
  go_wp2_with fail
  refine Y.out.mono ?_
  rintro e w' ⟨b, rfl, hb, rfl⟩
  clear hb
  cases b
  · clear hmk hmk0 hmk1 hnl
    go_wp2
    go_ret
    exact ⟨rfl, Below.refl _ _⟩
  go_wp2_with fail
  refine S0.out.mono ?_
  rintro e w' ⟨rfl, rfl⟩
  go_wp2_with fail
  refine S1.out.mono ?_
  rintro e w' ⟨rfl, rfl⟩
  by_cases hbig : 1048576 < 8 * n0 + T0 + (8 * n1 + T1)
  · clear hmk hmk0 hmk1 hnl
    go_wp2
    go_ret
    exact ⟨rfl, Below.refl _ _⟩
  go_upto_if 21 with (fail)
  go_cut [0] (fun s0 wx => ∃ (A : Option Addr) (c : Nat), s0 = .slice A n0 c ∧ Own wx w.heap.size 9 (.slice A n0 c) (sv l0) ∧ Below w.heap.size w wx)
  case first =>
    rcases A0 with _ | x0
    · obtain ⟨h1, h2⟩ := E0.out rfl
      have hsv : sv l0 = [] := List.eq_nil_of_length_eq_zero (by rw [sv_len, HL0.out]; exact h1)
      have HSV := Lib.hid hsv; have H1 := Lib.hid h1; have H2 := Lib.hid h2
      clear h1 h2 hsv
      go_wp2
      go_meet
      refine ⟨none, c0, rfl, ?_, Below.refl _ _⟩
      rw [HSV.out, H1.out, H2.out]
      exact Own.nil _ _ _
    · have ha := heap_alloc_new w (.cells (madeCells #[.string { data := #[] }] n0) 9)
      have HA := Lib.hid ha
      have HRA := Lib.hid (R0.out.below ((Below.refl w.heap.size w).alloc (Nat.le_refl _) (.cells (madeCells #[.string { data := #[] }] n0) 9)))
      clear ha
      go_wp2_with (refine copy_all _ rfl (.tmp 25) (.tmp 26) 22 9 rfl Try.underlying22 sizeS w.heap.size n0 c0 (some x0) (sv l0) (by rw [sv_len]; exact HL0.out) rfl rfl (madeCells #[.string { data := #[] }] n0) (size_madeCells _ _) HA.out w.heap.size HRA.out (sv_one l0) (by unfold maxLen; omega) ?_; intro w1 hown hb1)
      go_meet
      exact ⟨_, _, rfl, hown, ((Below.refl w.heap.size w).alloc (Nat.le_refl _) _).trans hb1⟩
  case rest =>
    obtain ⟨B0, d0, rfl, hO0, hb0⟩ := hcut
    obtain ⟨w1, rfl⟩ : ∃ wo : World, wo = wc := ⟨_, rfl⟩
    have HO0 := Lib.hid hO0; have HB0 := Lib.hid hb0
    have z01 := hb0.size
    have R1' := Lib.hid (R1.out.below hb0)
    clear hO0 hb0
    go_upto_if 30 with (fail)
    go_cut [1] (fun s1 wx => ∃ (A : Option Addr) (c : Nat), s1 = .slice A n1 c ∧ Own wx w1.heap.size 9 (.slice A n1 c) (sv l1) ∧ Below w1.heap.size w1 wx)
    case first =>
      rcases A1 with _ | x1
      · obtain ⟨h1, h2⟩ := E1.out rfl
        have hsv : sv l1 = [] := List.eq_nil_of_length_eq_zero (by rw [sv_len, HL1.out]; exact h1)
        have HSV := Lib.hid hsv; have H1 := Lib.hid h1; have H2 := Lib.hid h2
        clear h1 h2 hsv
        go_wp2
        go_meet
        refine ⟨none, c1, rfl, ?_, Below.refl _ _⟩
        rw [HSV.out, H1.out, H2.out]
        exact Own.nil _ _ _
      · have ha := heap_alloc_new w1 (.cells (madeCells #[.string { data := #[] }] n1) 9)
        have HA := Lib.hid ha
        have HRA := Lib.hid ((R1'.out.up z01).below ((Below.refl w1.heap.size w1).alloc (Nat.le_refl _) (.cells (madeCells #[.string { data := #[] }] n1) 9)))
        clear ha
        go_wp2_with (refine copy_all _ rfl (.tmp 34) (.tmp 35) 22 9 rfl Try.underlying22 sizeS w1.heap.size n1 c1 (some x1) (sv l1) (by rw [sv_len]; exact HL1.out) rfl rfl (madeCells #[.string { data := #[] }] n1) (size_madeCells _ _) HA.out w1.heap.size HRA.out (sv_one l1) (by unfold maxLen; omega) ?_; intro w2 hown hb2)
        go_meet
        exact ⟨_, _, rfl, hown, ((Below.refl w1.heap.size w1).alloc (Nat.le_refl _) _).trans hb2⟩
    case rest =>
      obtain ⟨B1, d1, rfl, hO1, hb1⟩ := hcut
      obtain ⟨w2, rfl⟩ : ∃ wo : World, wo = wc := ⟨_, rfl⟩
      have z12 := hb1.size
      have HB2 := Lib.hid (below_join HB0.out z01 hb1)
      have Q0 := HO0.out.keep hb1
      have HR0 := Lib.hid Q0.rd; have HR1 := Lib.hid hO1.rd
      clear hO1 hb1 Q0 hmk0 hmk1 hnl
      go_wp2
      clear hmk
      have b3 : Below w2.heap.size w2 (w2.alloc (.cells (madeCells #[.string { data := #[] }] (n0 + n1)) 9)) := (Below.refl _ _).alloc (Nat.le_refl _) _
      have O3 : Own (w2.alloc (.cells (madeCells #[.string { data := #[] }] (n0 + n1)) 9)) w2.heap.size 9 (.slice (some ⟨w2.heap.size, 0, none⟩) 0 (n0 + n1)) [] := World.ownsRow_made w2 _ _ (Nat.le_refl _) (by unfold maxLen; omega) (by rw [size_madeCells, Nat.mul_one])
      generalize w2.alloc (.cells (madeCells #[.string { data := #[] }] (n0 + n1)) 9) = w3 at b3 O3 ⊢
      have HB3 := Lib.hid b3; have HO3 := Lib.hid O3
      clear b3 O3
      go_loopw [7, 8] (fun v i wr => ∃ (j : Nat) (A' : Option Addr) (c' : Nat), j ≤ n0 ∧ v = .slice A' j c' ∧ i = .int .i64 j ∧ Own wr w2.heap.size 9 (.slice A' j c') (sv (l0.take j)) ∧ Below w2.heap.size w2 wr) (fun _ i _ => n0 - (intOf i).toNat)
      case atStart => exact ⟨0, _, _, by omega, rfl, rfl, HO3.out, HB3.out⟩
      case round =>
        obtain ⟨j, A', c', hj, rfl, rfl, hown, hbel⟩ := hrel
        by_cases hlt : j < n0
        · have hkl : j < l0.length := by rw [HL0.out]; exact hlt
          obtain ⟨y, rfl, hby, hcy⟩ := HR0.out.at_ (sv_at l0 j hkl)
          have cx : wr.cell? (y.add j) = some (.string l0[j]) := by rw [hbel.cell (by rw [add_block]; exact hby)]; exact hcy
          obtain ⟨s, hs⟩ : ∃ s, s = l0[j] := ⟨_, rfl⟩
          rw [← hs] at cx
          have HS := Lib.hid hs
          have OW := Lib.hid hown; have BL := Lib.hid hbel
          have hbw := hbel.size
          clear hs hown hbel hcy
          go_wp2_with (at_builtin; refine append_any _ rfl (.tmp 50) (.tmp 55) 22 9 rfl w2.heap.size Try.underlying22 (.string { data := #[] }) 16 rfl (by omega) infoS (.slice A' j c') (sv (l0.take j)) rfl (OW.out.alloc _) (wr.heap.size + 1) (some ⟨wr.heap.size, 0, none⟩) 1 1 [.string s] rfl rfl ?c1 ?c2 ?c3 ?c4 ?c5)
          case c1 =>
            intro _
            refine ⟨_, rfl, by simp, fun i c hi => ?_⟩
            match i, hi with
            | 0, hi => simp at hi; subst hi; simp [Addr.add]
          case c2 => intro u hu; simp at hu; subst hu; rfl
          case c3 => rw [sv_len, List.length_take]; omega
          case c4 => simp; omega
          case c5 =>
            intro v' w4 hown1 hg1 hat1
            have B2 := Lib.hid ((BL.out.alloc hbw _).grown hg1 (by simp; omega) (fun g hg => (OW.out.lt g hg).1))
            have O2 := Lib.hid (show Own w4 w2.heap.size 9 v' (sv (l0.take (j + 1))) by
              rw [List.take_succ_eq_append_getElem hkl, sv_append, ← HS.out]; exact hown1)
            obtain ⟨A2, c2, hv2⟩ := O2.out.form
            have e2 : (sv (l0.take (j + 1))).length = j + 1 := by rw [sv_len, List.length_take]; omega
            rw [e2] at hv2
            subst hv2
            clear hg1 hown1 hat1 e2
            go_wp2
            go_roundw
            case rel => exact ⟨j + 1, A2, c2, by omega, rfl, by go_num, O2.out, B2.out⟩
            case measure => simp [intOf]; omega
        · obtain rfl : j = n0 := by omega
          rw [List.take_of_length_le (by rw [HL0.out]; omega)] at hown
          have OW1 := Lib.hid hown; have BL1 := Lib.hid hbel
          clear hown hbel
          obtain ⟨w4, rfl⟩ : ∃ wo : World, wo = wr := ⟨_, rfl⟩
          go_wp2
          go_loopw [7, 9] (fun v i wr => ∃ (k : Nat) (A' : Option Addr) (c' : Nat), k ≤ n1 ∧ v = .slice A' (j + k) c' ∧ i = .int .i64 k ∧ Own wr w2.heap.size 9 (.slice A' (j + k) c') (sv (l0 ++ l1.take k)) ∧ Below w2.heap.size w2 wr) (fun _ i _ => n1 - (intOf i).toNat)
          case atStart => exact ⟨0, _, _, by omega, rfl, rfl, by rw [List.take_zero, List.append_nil]; exact OW1.out, BL1.out⟩
          case round =>
            obtain ⟨k, A'', c'', hk, rfl, rfl, hown, hbel⟩ := hrel
            by_cases hlt : k < n1
            · have hkl : k < l1.length := by rw [HL1.out]; exact hlt
              obtain ⟨y, rfl, hby, hcy⟩ := HR1.out.at_ (sv_at l1 k hkl)
              have cx : wr.cell? (y.add k) = some (.string l1[k]) := by rw [hbel.cell (by rw [add_block]; exact hby)]; exact hcy
              obtain ⟨s, hs⟩ : ∃ s, s = l1[k] := ⟨_, rfl⟩
              rw [← hs] at cx
              have HS := Lib.hid hs
              have OW := Lib.hid hown; have BL := Lib.hid hbel
              have hbw := hbel.size
              clear hs hown hbel hcy
              go_wp2_with (at_builtin; refine append_any _ rfl (.tmp 63) (.tmp 68) 22 9 rfl w2.heap.size Try.underlying22 (.string { data := #[] }) 16 rfl (by omega) infoS (.slice A'' (j + k) c'') (sv (l0 ++ l1.take k)) rfl (OW.out.alloc _) (wr.heap.size + 1) (some ⟨wr.heap.size, 0, none⟩) 1 1 [.string s] rfl rfl ?d1 ?d2 ?d3 ?d4 ?d5)
              case d1 =>
                intro _
                refine ⟨_, rfl, by simp, fun i c hi => ?_⟩
                match i, hi with
                | 0, hi => simp at hi; subst hi; simp [Addr.add]
              case d2 => intro u hu; simp at hu; subst hu; rfl
              case d3 => rw [sv_len, List.length_append, List.length_take, HL0.out]; omega
              case d4 => simp; omega
              case d5 =>
                intro v' w5 hown1 hg1 hat1
                have B2 := Lib.hid ((BL.out.alloc hbw _).grown hg1 (by simp; omega) (fun g hg => (OW.out.lt g hg).1))
                have O2 := Lib.hid (show Own w5 w2.heap.size 9 v' (sv (l0 ++ l1.take (k + 1))) by
                  rw [List.take_succ_eq_append_getElem hkl, ← List.append_assoc, sv_append, ← HS.out]; exact hown1)
                obtain ⟨A2, c2, hv2⟩ := O2.out.form
                have e2 : (sv (l0 ++ l1.take (k + 1))).length = j + (k + 1) := by rw [sv_len, List.length_append, HL0.out, List.length_take]; omega
                rw [e2] at hv2
                subst hv2
                clear hg1 hown1 hat1 e2
                go_wp2
                go_roundw
                case rel => exact ⟨k + 1, A2, c2, by omega, rfl, by go_num, O2.out, B2.out⟩
                case measure => simp [intOf]; omega
            · obtain rfl : k = n1 := by omega
              rw [List.take_of_length_le (by rw [HL1.out]; omega)] at hown
              obtain ⟨w5, rfl⟩ : ∃ wo : World, wo = wr := ⟨_, rfl⟩
              have z5 := hbel.size
              have ht01 : tot (l0 ++ l1) ≤ 1048576 := by rw [tot_append]; have := HZ.out; omega
              have ht0 : tot l0 ≤ 1048576 := by have := HZ.out; omega
              have ht1 : tot l1 ≤ 1048576 := by have := HZ.out; omega
              have hlen : (l0 ++ l1).length = j + k := by rw [List.length_append, HL0.out, HL1.out]
              have K0 := Lib.hid (zz_any A'' (j + k) c'' (l0 ++ l1) w5 hlen (by omega) ht01 hown.rd)
              have K1 := Lib.hid (fun (W : World) (hb : Below w5.heap.size w5 W) => zz_any B0 j d0 l0 W HL0.out (by omega) ht0 ((HR0.out.below (hbel.trans (hb.mono z5))).up (Nat.le_trans z5 hb.size)))
              have K2 := Lib.hid (fun (W : World) (hb : Below w5.heap.size w5 W) => zz_any B1 k d1 l1 W HL1.out (by omega) ht1 ((HR1.out.below (hbel.trans (hb.mono z5))).up (Nat.le_trans z5 hb.size)))
              have HB5 := Lib.hid (HB2.out.trans (hbel.mono (by omega)))
              have ek : (⟨(key (l0 ++ l1)).toArray⟩ : ByteArray) = ⟨(key l0).toArray⟩ ++ ⟨(key l1).toArray⟩ := by
                apply ext_list; rw [list_append, key_append]
              rw [ek] at K0
              have q : ((⟨(key l0).toArray⟩ ++ ⟨(key l1).toArray⟩ : ByteArray).toList == (⟨(key l0).toArray⟩ ++ ⟨(key l1).toArray⟩ : ByteArray).toList) = true := by simp
              have s0 : (⟨(key l0).toArray⟩ : ByteArray).size ≤ 5242880 := by
                rw [← len_list]; show (key l0).length ≤ _; rw [key_len, HL0.out]; omega
              have s1 : (⟨(key l1).toArray⟩ : ByteArray).size ≤ 5242880 := by
                rw [← len_list]; show (key l1).length ≤ _; rw [key_len, HL1.out]; omega
              generalize (⟨(key l0).toArray⟩ : ByteArray) = sa at K0 K1 q s0
              generalize (⟨(key l1).toArray⟩ : ByteArray) = sb at K0 K2 q s1
              clear hown hbel ht01 ht0 ht1 hlen ek
              go_wp2_with fail
              refine K0.out.mono ?_
              rintro e w6 ⟨rfl, hb6⟩
              have C1 := Lib.hid (K1.out w6 hb6)
              have HB6 := Lib.hid hb6
              clear hb6
              go_wp2_with fail
              refine C1.out.mono ?_
              rintro e w7 ⟨rfl, hb7⟩
              have HB7 := Lib.hid (below_join HB6.out HB6.out.size hb7)
              have C2 := Lib.hid (K2.out w7 HB7.out)
              clear hb7
              go_wp2_with fail
              refine C2.out.mono ?_
              rintro e w8 ⟨rfl, hb8⟩
              have HB8 := Lib.hid (HB5.out.trans ((below_join HB7.out HB7.out.size hb8).mono (by omega)))
              clear hb8
              go_wp2
              go_ret
              exact ⟨rfl, HB8.out⟩
theorem walk (a0 : Option Addr) (len0 cap0 : Nat) (z0 : List ByteArray) (a1 : Option Addr) (len1 cap1 : Nat) (z1 : List ByteArray) (w : World) (w0 : IsStrs w a0 len0 cap0 z0) (w1 : IsStrs w a1 len1 cap1 z1) :
    Calls Try.prog 3 #[.slice a0 len0 cap0, .slice a1 len1 cap1] w fun e w' => e = .returned (.bool true) ∧ Below w.heap.size w w' := by
  obtain ⟨⟨l0, L0, r0, m0⟩, e0, g0⟩ := rd_of_strs w0
  obtain ⟨⟨l1, L1, r1, m1⟩, e1, g1⟩ := rd_of_strs w1
  have hy := two_any a0 len0 cap0 l0 a1 len1 cap1 l1 w L0 g0 r0 m0 L1 g1 r1 m1
  by_cases hz : len0 + tot l0 + (len1 + tot l1) ≤ 1048576
  · exact in_range a0 a1 len0 len1 cap0 cap1 l0 l1 w L0 L1 hz e0 e1 r0 r1 hy
  · have H := Lib.hid hy
    have HZ := Lib.hid hz
    clear w0 w1 hy hz L0 r0 m0 e0 g0 L1 r1 m1 e1 g1
    go_enter Try.func3, Try.ntmps3
    go_wp2_with fail
    refine H.out.mono ?_
    rintro e w' ⟨b, rfl, hb, rfl⟩
    cases b
    · clear hb
      go_wp2
      go_ret
      exact ⟨rfl, Below.refl _ _⟩
    · exact absurd (hb rfl) HZ.out
end Go.Proofs.Ytefkeccjnhkjeaa.fnMapKeyConcat
