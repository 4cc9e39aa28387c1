/- The walk of the law FnMapKeyRoundTrip: it returns true for every slice of strings. No condition. -/
import Derived.Test.YtefkeccjnhkjeaaBds
import Derived.Deep.DeepCutAuto
import Derived.Laws.BitsAllLaws
import Derived.IntWalk
namespace Go.Proofs.Ytefkeccjnhkjeaa.fnMapKeyRoundTrip
open Go.ChangeShapes Go.WideShapes Go.ChangeAt Go.RowKit Go.Deep Go.Proofs.Ytefkeccjnhkjeaa.Base Go.Proofs.Ytefkeccjnhkjeaa.Sls Go.Proofs.Ytefkeccjnhkjeaa.Bld Go.Proofs.Ytefkeccjnhkjeaa.Key Go.Proofs.Ytefkeccjnhkjeaa.Bds
set_option linter.unusedVariables false
theorem infoS : (Try.prog.info? 9).map (fun i => (i.zero, i.size, i.bytes)) = some (some (.string { data := #[] }), 1, 16) := by kernel_rfl
theorem sizeS : (Try.prog.info? 9).map (·.size) = some 1 := by kernel_rfl
/-! ### PLAIN -/
theorem or_step (a b i : Nat) (ha : a < 2 ^ i) (hb : a + b * 2 ^ i < 4294967296) : bits .or .u32 (a : Int) ((b * 2 ^ i : Nat) : Int) = ((a + b * 2 ^ i : Nat) : Int) := by
  rw [u32_or_nat a (b * 2 ^ i) (by omega) (by omega), Nat.or_comm, Nat.mul_comm, ← Nat.two_pow_add_eq_or_of_lt ha b, Nat.add_comm]
theorem four (b0 b1 b2 b3 : Nat) (h0 : b0 < 256) (h1 : b1 < 256) (h2 : b2 < 256) (h3 : b3 < 256) :
    bits .or .u32 (bits .or .u32 (bits .or .u32 ((b0 : Int) % 4294967296) ((b1 : Int) % 4294967296 * 256 % 4294967296)) ((b2 : Int) % 4294967296 * 65536 % 4294967296)) ((b3 : Int) % 4294967296 * 16777216 % 4294967296) = ((b0 + b1 * 256 + b2 * 65536 + b3 * 16777216 : Nat) : Int) := by
  have e0 : (b0 : Int) % 4294967296 = b0 := by omega
  have e1 : (b1 : Int) % 4294967296 * 256 % 4294967296 = ((b1 * 2 ^ 8 : Nat) : Int) := by omega
  have e2 : (b2 : Int) % 4294967296 * 65536 % 4294967296 = ((b2 * 2 ^ 16 : Nat) : Int) := by omega
  have e3 : (b3 : Int) % 4294967296 * 16777216 % 4294967296 = ((b3 * 2 ^ 24 : Nat) : Int) := by omega
  rw [e0, e1, e2, e3, or_step b0 b1 8 (by omega) (by omega), or_step _ b2 16 (by omega) (by omega), or_step _ b3 24 (by omega) (by omega)]
theorem key_at (l : List ByteArray) (j : Nat) (h : j < l.length) : key l = key (l.take j) ++ (Lib.leBytes 4 l[j].size ++ (l[j].data.toList ++ key (l.drop (j + 1)))) := by
  conv => lhs; rw [← List.take_append_drop (j + 1) l, key_append, key_step l j h]
  simp only [List.append_assoc]
theorem byte_at (K : ByteArray) (P R : List UInt8) (v m i : Nat) (hK : K.data.toList = P ++ (Lib.leBytes 4 v ++ R)) (hP : P.length = m) (hi : i < 4) (hb : m + i < K.size) : K[m + i].toNat = v / 256 ^ i % 256 := by
  have h1 := get_list? K (m + i) hb
  rw [hK, List.getElem?_append_right (by omega), List.getElem?_append_left (by rw [le_len]; omega)] at h1
  have e : m + i - P.length = i := by omega
  rw [e] at h1
  match i, hi with
  | 0, _ => simp [Lib.leBytes] at h1; show K[m].toNat = _; rw [← h1]; simp
  | 1, _ => simp [Lib.leBytes] at h1; rw [← h1]; simp
  | 2, _ => simp [Lib.leBytes] at h1; rw [← h1]; simp; omega
  | 3, _ => simp [Lib.leBytes] at h1; rw [← h1]; simp; omega
theorem four_at (K s : ByteArray) (P R : List UInt8) (m : Nat) (hK : K.data.toList = P ++ (Lib.leBytes 4 s.size ++ R)) (hP : P.length = m) (b0 : m < K.size) (b1 : m + 1 < K.size) (b2 : m + 2 < K.size) (b3 : m + 3 < K.size) (hs : s.size < 4294967296) :
    bits .or .u32 (bits .or .u32 (bits .or .u32 ((K[m].toNat : Int) % 4294967296) ((K[m + 1].toNat : Int) % 4294967296 * 256 % 4294967296)) ((K[m + 2].toNat : Int) % 4294967296 * 65536 % 4294967296)) ((K[m + 3].toNat : Int) % 4294967296 * 16777216 % 4294967296) = (s.size : Int) := by
  rw [four _ _ _ _ (UInt8.toNat_lt _) (UInt8.toNat_lt _) (UInt8.toNat_lt _) (UInt8.toNat_lt _)]
  have g0 : K[m].toNat = s.size / 256 ^ 0 % 256 := byte_at K _ _ _ m 0 hK hP (by omega) b0
  have g1 := byte_at K _ _ _ m 1 hK hP (by omega) b1
  have g2 := byte_at K _ _ _ m 2 hK hP (by omega) b2
  have g3 := byte_at K _ _ _ m 3 hK hP (by omega) b3
  rw [g0, g1, g2, g3]
  simp only [Nat.pow_zero, Nat.pow_one, Nat.div_one]
  have p2 : 256 ^ 2 = 65536 := rfl
  have p3 : 256 ^ 3 = 16777216 := rfl
  rw [p2, p3]
  omega
theorem part_at (K s : ByteArray) (P R : List UInt8) (v m : Nat) (hK : K.data.toList = P ++ (Lib.leBytes 4 v ++ (s.data.toList ++ R))) (hP : P.length = m) : K.extract (m + 4) (m + 4 + s.size) = s := by
  apply ext_list
  rw [Lib.extract_data, hK, ← List.append_assoc, List.drop_left' (by rw [List.length_append, le_len]; omega)]
  rw [show m + 4 + s.size - (m + 4) = s.data.toList.length by rw [len_list]; omega, List.take_left]
set_option maxRecDepth 100000 in
set_option maxHeartbeats 1000000 in
theorem in_range (A0 : Option Addr) (n0 c0 : Nat) (l0 : List ByteArray) (w : World) (L0 : l0.length = n0) (hz : n0 + tot l0 ≤ 1048576)
    (e0 : A0 = none → n0 = 0 ∧ c0 = 0) (r0 : Rd w w.heap.size A0 (sv l0)) (hy : Calls Try.prog 8 #[.slice A0 n0 c0] w (Bd (n0 + tot l0 ≤ 1048576) w)) :
    Calls Try.prog 4 #[.slice A0 n0 c0] w fun e w' => e = .returned (.bool true) ∧ Below w.heap.size w w' := by
  have Y := Lib.hid hy
  have S0 := Lib.hid (sum_any A0 n0 c0 l0 w L0 (by omega) r0)
  have hn0 : n0 ≤ 1048576 := by omega
  have HZ := Lib.hid hz
  obtain ⟨T0, hT0⟩ : ∃ T, T = tot l0 := ⟨_, rfl⟩
  rw [← hT0] at S0 hz
  have HT0 := Lib.hid hT0
  have HL0 := Lib.hid L0; have R0 := Lib.hid r0; have E0 := Lib.hid e0
  clear hy L0 r0 e0 hT0
  have hmk0 := fun W => run_make_row' (P := Try.prog) 22 9 (.string { data := #[] }) 16 Try.underlying22 infoS rfl .i64 .i64 n0 (by omega) (by omega) W
  have hnl := fun (W : World) (a : Option Addr) (n c : Nat) => run_neq_slice_nil_any (P := Try.prog) W 22 9 a n c 0 0 Try.underlying22
  go_enter Try.func4, Try.ntmps4
  go_wp2_with fail
  refine Y.out.mono ?_
  rintro e w' ⟨b, rfl, hb, rfl⟩
  clear hb
  cases b
  · clear hmk0 hnl
    go_wp2
    go_ret
    exact ⟨rfl, Below.refl _ _⟩
  go_wp2_with fail
  refine S0.out.mono ?_
  rintro e w' ⟨rfl, rfl⟩
  by_cases hbig : 1048576 < 8 * n0 + T0
  · clear hmk0 hnl
    go_wp2
    go_ret
    exact ⟨rfl, Below.refl _ _⟩
  go_upto_if 16 with (fail)
  go_cut [0] (fun s0 wx => ∃ (A : Option Addr) (c : Nat), s0 = .slice A n0 c ∧ Own wx w.heap.size 9 (.slice A n0 c) (sv l0) ∧ Below w.heap.size w wx)
  case first =>
    rcases A0 with _ | x0
    · obtain ⟨h1, h2⟩ := E0.out rfl
      have hsv : sv l0 = [] := List.eq_nil_of_length_eq_zero (by rw [sv_len, HL0.out]; exact h1)
      have HSV := Lib.hid hsv; have H1 := Lib.hid h1; have H2 := Lib.hid h2
      clear h1 h2 hsv
      go_wp2
      go_meet
      refine ⟨none, c0, rfl, ?_, Below.refl _ _⟩
      rw [HSV.out, H1.out, H2.out]
      exact Own.nil _ _ _
    · have ha := heap_alloc_new w (.cells (madeCells #[.string { data := #[] }] n0) 9)
      have HA := Lib.hid ha
      have HRA := Lib.hid (R0.out.below ((Below.refl w.heap.size w).alloc (Nat.le_refl _) (.cells (madeCells #[.string { data := #[] }] n0) 9)))
      clear ha
      go_wp2_with (refine copy_all _ rfl (.tmp 20) (.tmp 21) 22 9 rfl Try.underlying22 sizeS w.heap.size n0 c0 (some x0) (sv l0) (by rw [sv_len]; exact HL0.out) rfl rfl (madeCells #[.string { data := #[] }] n0) (size_madeCells _ _) HA.out w.heap.size HRA.out (sv_one l0) (by unfold maxLen; omega) ?_; intro w1 hown hb1)
      go_meet
      exact ⟨_, _, rfl, hown, ((Below.refl w.heap.size w).alloc (Nat.le_refl _) _).trans hb1⟩
  case rest =>
    obtain ⟨B0, d0, rfl, hO0, hb0⟩ := hcut
    obtain ⟨w1, rfl⟩ : ∃ wo : World, wo = wc := ⟨_, rfl⟩
    have ht0 : tot l0 ≤ 1048576 := by have := HZ.out; omega
    have K0 := Lib.hid (zz_any B0 n0 d0 l0 w1 HL0.out hn0 ht0 hO0.rd)
    have HR0 := Lib.hid hO0.rd
    have z01 := hb0.size
    have HB0 := Lib.hid hb0
    obtain ⟨K, hK⟩ : ∃ K : ByteArray, K = ⟨(key l0).toArray⟩ := ⟨_, rfl⟩
    rw [← hK] at K0
    have HK := Lib.hid (show K.data.toList = key l0 by rw [hK])
    have hks : K.size = 4 * n0 + T0 := by rw [← len_list, HK.out, key_len, HL0.out, HT0.out]
    have HKS := Lib.hid hks
    have hk1 : K.size ≤ 5242880 := by omega
    clear hO0 hb0 hK hks ht0 hmk0 hnl
    go_wp2_with fail
    refine K0.out.mono ?_
    rintro e w2 ⟨rfl, hb2⟩
    have HR2 := Lib.hid (HR0.out.below hb2)
    have HB2 := Lib.hid (below_join HB0.out z01 hb2)
    clear hb2
    go_wp2
    go_loopw [5, 6] (fun i k wr => ∃ (j m q : Nat), j ≤ n0 ∧ m ≤ K.size ∧ i = .int .i64 m ∧ k = .int .i64 j ∧ Hid (m = 4 * j + tot (l0.take j)) ∧ wr = w2.drewN q) (fun i _ _ => K.size - (intOf i).toNat)
    case atStart => exact ⟨0, 0, 0, by omega, by omega, rfl, rfl, Lib.hid rfl, rfl⟩
    case round =>
      obtain ⟨j, m, q, hj, hm, rfl, rfl, E, rfl⟩ := hrel
      by_cases hlt : j < n0
      · have hkl : j < l0.length := by rw [HL0.out]; exact hlt
        have hts := tot_step l0 j hkl
        have htl := tot_le l0 (j + 1)
        have hrm : m + 4 + l0[j].size ≤ K.size := by rw [HKS.out]; have := E.out; have := HT0.out; omega
        obtain ⟨s, hs⟩ : ∃ s, s = l0[j] := ⟨_, rfl⟩
        rw [← hs] at hrm hts
        have HS := Lib.hid hs; have HTS := Lib.hid hts
        clear hs hts htl
        obtain ⟨x, rfl, hxb, cx⟩ := HR2.out.at_ (sv_at l0 j hkl)
        rw [← HS.out] at cx
        have b0 : m < K.size := by omega
        have b1 : m + 1 < K.size := by omega
        have b2 : m + 2 < K.size := by omega
        have b3 : m + 3 < K.size := by omega
        have hK2 : K.data.toList = key (l0.take j) ++ (Lib.leBytes 4 s.size ++ (s.data.toList ++ key (l0.drop (j + 1)))) := by rw [HK.out, key_at l0 j hkl, ← HS.out]
        have hP2 : (key (l0.take j)).length = m := by rw [key_len, E.out, List.length_take]; omega
        have hPart := Lib.hid (part_at K s _ _ _ m hK2 hP2)
        have FV := Lib.hid (four_at K s _ _ m hK2 hP2 b0 b1 b2 b3 (by omega))
        have FZ : Hid (s.size ≤ 5242880) := Lib.hid (by omega)
        clear hK2 hP2
        have i0 : (0 : Int) ≤ (m : Int) := by omega
        have i1 : (m : Int) < (K.size : Int) := by omega
        have j1 : (m : Int) + 1 < (K.size : Int) := by omega
        have j2 : (m : Int) + 2 < (K.size : Int) := by omega
        have j3 : (m : Int) + 3 < (K.size : Int) := by omega
        have p1 : (0 : Int) ≤ (m : Int) + 1 := by omega
        have v1 : ((m : Int) + 1).toNat = m + 1 := by omega
        have p2 : (0 : Int) ≤ (m : Int) + 2 := by omega
        have v2 : ((m : Int) + 2).toNat = m + 2 := by omega
        have p3 : (0 : Int) ≤ (m : Int) + 3 := by omega
        have v3 : ((m : Int) + 3).toNat = m + 3 := by omega
        have u1 : IntKind.i64.wrap ((m : Int) + 1) = (m : Int) + 1 := IntWalk.i64_in _ (by omega)
        have u2 : IntKind.i64.wrap ((m : Int) + 2) = (m : Int) + 2 := IntWalk.i64_in _ (by omega)
        have u3 : IntKind.i64.wrap ((m : Int) + 3) = (m : Int) + 3 := IntWalk.i64_in _ (by omega)
        go_wp2
        go_quiet (fail)
        clear u1 u2 u3
        rw [FV.out]
        have sz := FZ.out
        have q1 : decide ((n0 : Int) ≤ (j : Int)) = false := by simp; omega
        go_wp2
        have x1 : (0 : Int) ≤ (j : Int) := by omega
        have x2 : (j : Int) < (n0 : Int) := by omega
        have y1 : (0 : Int) ≤ (m : Int) + 4 := by omega
        have y2 : (m : Int) + 4 ≤ (m : Int) + 4 + (s.size : Int) := by omega
        have y3 : (m : Int) + 4 + (s.size : Int) ≤ (K.size : Int) := by omega
        have y4 : ((m : Int) + 4).toNat = m + 4 := by omega
        have y5 : ((m : Int) + 4 + (s.size : Int)).toNat = m + 4 + s.size := by omega
        have y6 : IntKind.i64.wrap ((m : Int) + 4 + (s.size : Int)) = (m : Int) + 4 + (s.size : Int) := IntWalk.i64_in _ (by omega)
        have y7 := hPart.out
        have y8 : (s.toList != s.toList) = false := by simp
        go_quiet (fail)
        clear y6 y7
        go_wp2
        go_roundw
        case rel => exact ⟨j + 1, m + 4 + s.size, _, by omega, by omega, by go_num, by go_num, Lib.hid (by rw [HTS.out, E.out]; omega), rfl⟩
        case measure => simp [intOf]; omega
      · obtain rfl : j = n0 := by omega
        have hme : m = K.size := by
          have := E.out; rw [List.take_of_length_le (by rw [HL0.out]; omega)] at this; rw [this, HKS.out, HT0.out]
        have zz : ((j : Int) == (j : Int)) = true := by simp
        have ge : ¬ ((m : Int) < (K.size : Int)) := by omega
        have HB3 := Lib.hid (below_draws HB2.out q)
        clear hme
        go_wp2
        go_ret
        exact ⟨rfl, HB3.out⟩
theorem walk (a0 : Option Addr) (len0 cap0 : Nat) (z0 : List ByteArray) (w : World) (w0 : IsStrs w a0 len0 cap0 z0) :
    Calls Try.prog 4 #[.slice a0 len0 cap0] w fun e w' => e = .returned (.bool true) ∧ Below w.heap.size w w' := by
  obtain ⟨⟨l0, L0, r0, m0⟩, e0, g0⟩ := rd_of_strs w0
  have hy := one_any a0 len0 cap0 l0 w L0 g0 r0 m0
  by_cases hz : len0 + tot l0 ≤ 1048576
  · exact in_range a0 len0 cap0 l0 w L0 hz e0 r0 hy
  · have H := Lib.hid hy
    have HZ := Lib.hid hz
    clear w0 hy hz L0 r0 m0 e0 g0
    go_enter Try.func4, Try.ntmps4
    go_wp2_with fail
    refine H.out.mono ?_
    rintro e w' ⟨b, rfl, hb, rfl⟩
    cases b
    · clear hb
      go_wp2
      go_ret
      exact ⟨rfl, Below.refl _ _⟩
    · exact absurd (hb rfl) HZ.out
end Go.Proofs.Ytefkeccjnhkjeaa.fnMapKeyRoundTrip
