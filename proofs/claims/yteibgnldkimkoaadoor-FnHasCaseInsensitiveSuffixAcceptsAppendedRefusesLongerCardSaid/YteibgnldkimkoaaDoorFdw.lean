/- strings.EqualFold of two texts that differ by the case of ASCII letters alone: it says yes. Conditions: lengths; the two tables of unicode/utf8 read as laid. -/
import Derived.Test.YteibgnldkimkoaaDoorShelf
import Derived.Test.YteibgnldkimkoaaDoorFdp
import Derived.WalkKit
import Derived.WalkSpells
import Derived.Lib.Walk
import Derived.Lib.Strings
import Derived.Laws.Strings3
import Derived.Deep.LoopGhost
import Derived.ScopeJumps
import Derived.Deep.DeepCutAuto
import Derived.Below
import Derived.Lib.OthersKept
namespace Go.Proofs.YteibgnldkimkoaaDoor.Fdw
open Go.Shelf Go.RowKit Go.Proofs.YteibgnldkimkoaaDoor.Base Go.Proofs.YteibgnldkimkoaaDoor.Fdp
set_option linter.unusedVariables false
theorem decodeGo_extract (t : ByteArray) (k : Nat) (h : k < t.size) : Lib.decodeGo (t.extract k t.size) = Utf8.decode t k := by
  unfold Lib.decodeGo
  rw [if_neg (by rw [ByteArray.size_extract]; omega), dec_extract]
  rfl
theorem ext_ext (t : ByteArray) (a b : Nat) (h : a + b ≤ t.size) : (t.extract a t.size).extract b (t.extract a t.size).size = t.extract (a + b) t.size := by
  apply ext_list
  rw [Lib.extract_data, Lib.extract_data, Lib.extract_data, ByteArray.size_extract, List.drop_take, List.drop_drop, List.take_take]
  congr 1
  omega
theorem tabs_below {w w' : World} {B : Nat} (h : Lib.Utf8Tabs 3 4 w) (hb : Below B w w') (h3 : 3 < B) (h4 : 4 < B) : Lib.Utf8Tabs 3 4 w' :=
  ⟨fun c hc => (hb.cell (p := ⟨3, c, none⟩) h3).trans (h.1 c hc), fun i hi => ⟨(hb.cell (p := ⟨4, 2 * i, none⟩) h4).trans (h.2 i hi).1, (hb.cell (p := ⟨4, 2 * i + 1, none⟩) h4).trans (h.2 i hi).2⟩⟩
theorem tabs_lt {w : World} (h : Lib.Utf8Tabs 3 4 w) : 3 < w.heap.size ∧ 4 < w.heap.size :=
  ⟨World.block_lt_of_cell? w ⟨3, 0, none⟩ (h.1 0 (by omega)), World.block_lt_of_cell? w ⟨4, 0, none⟩ (h.2 0 (by omega)).1⟩
theorem fo_extract {s t : ByteArray} (h : Fo s t) (k : Nat) : Fo (s.extract k s.size) (t.extract k t.size) :=
  ⟨by rw [ByteArray.size_extract, ByteArray.size_extract, h.len], fun i => by rw [gb_extract, gb_extract]; exact h.at_ (k + i)⟩
theorem or_self (x : Nat) (h : x < 256) : bits .or .u8 (x : Int) (x : Int) = (x : Int) := by
  have := u8_or_nat x x h h
  rwa [Nat.or_self] at this
theorem or_low (x y : Nat) (hx : x < 128) (hy : y < 128) : bits .or .u8 (x : Int) (y : Int) = ((x ||| y : Nat) : Int) ∧ ¬ ((128 : Int) ≤ ((x ||| y : Nat) : Int)) := by
  refine ⟨u8_or_nat x y (by omega) (by omega), ?_⟩
  have := Nat.or_lt_two_pow (n := 7) hx hy
  omega
theorem ext0 (t : ByteArray) : t.extract 0 t.size = t := by
  apply ext_list
  rw [Lib.extract_data]
  exact List.take_of_length_le (by rw [List.drop_zero, len_list]; exact Nat.le_refl _)
theorem toList_ne {t : ByteArray} (h : 0 < t.size) : t.toList.isEmpty = false ∧ ¬ t.toList = [] := by
  have e : t.toList = t.data.toList := Lib.toList_data t
  have : t.data.toList ≠ [] := fun h' => by
    have := len_list t
    rw [h'] at this
    simp at this
    omega
  refine ⟨?_, by rw [e]; exact this⟩
  rw [e]
  cases h2 : t.data.toList with
  | nil => exact absurd h2 this
  | cons => rfl
set_option maxRecDepth 20000 in
theorem dec9 (t : ByteArray) (w : World) (h0 : 0 < t.size) (hz : t.size ≤ 16777216) (hT : Lib.Utf8Tabs 3 4 w) :
    Calls Tryd.prog 9 #[.string t] w fun e w' => e = .returned (.tuple #[.int .i32 ((Utf8.decode t 0).1 : Nat), .int .i64 ((Utf8.decode t 0).2 : Nat)]) ∧ Below w.heap.size w w' := by
  obtain ⟨n1, n2⟩ := toList_ne h0
  obtain ⟨c, hc⟩ : ∃ c : UInt8, t[0]'h0 = c := ⟨_, rfl⟩
  have hgb : gb t 0 = c.toNat := by rw [gb_lt t 0 h0, hc]
  have c256 := c.toNat_lt
  have hD : Lib.decodeGo t = Utf8.decode t 0 := by
    have := decodeGo_extract t 0 h0
    rwa [ext0] at this
  have SL := Lib.hid (Tryd.utf8_decodeRuneInStringSlow t w hT)
  rw [hD] at SL
  by_cases h8 : c.toNat < 128
  · have hdl := dec_low t 0 (by rw [hgb]; exact h8)
    rw [hgb] at hdl
    rw [hdl]
    clear SL hD hdl hgb
    go_enter Tryd.func9, Tryd.ntmps9
    go_wp2
    refine bodyPost_ret (v := .tuple #[.int .i32 c.toNat, .int .i64 1]) (by simp [results, Tryd.results9, go_sem]) rfl ⟨rfl, Below.refl _ _⟩
  · have h8' : ¬ (c.toNat : Int) < 128 := by omega
    generalize (Utf8.decode t 0).1 = d1 at SL ⊢
    generalize (Utf8.decode t 0).2 = d2 at SL ⊢
    clear hD hgb
    go_enter Tryd.func9, Tryd.ntmps9
    go_wp2_with (first | (go_at_call 11; refine SL.out.mono ?_; rintro e w4 ⟨rfl, hb⟩) | fail)
    refine bodyPost_ret (v := .tuple #[.int .i32 d1, .int .i64 d2]) (by simp [results, Tryd.results9, go_sem]) rfl ⟨rfl, hb⟩
/-- Under way: p bytes of s have gone, the rest of t stands. -/
def Jn (s t : ByteArray) (w wr : World) (v : Value) : Prop :=
  ∃ p : Nat, p ≤ s.size ∧ wr.heap[w.heap.size]? = some (.stringIter s p) ∧ v = .string (t.extract p t.size) ∧ Below w.heap.size w wr
/-- The frame at the jump. -/
def Jd (s t : ByteArray) (w : World) (a' : Act) (w' : World) : Prop := w' = w ∧ ∃ (i : Nat) (u : Nat → Value), i ≤ s.size ∧ a' = { tmps := #[.string s, .string t, u 2, u 3, u 4, .int .i64 i, u 6, u 7, u 8, u 9, u 10, u 11, u 12, u 13, u 14, u 15, u 16, u 17, u 18, u 19, u 20, u 21, u 22, u 23, u 24, u 25, u 26, u 27, u 28, u 29, u 30, u 31, u 32, u 33, u 34, u 35, u 36, u 37, u 38, u 39, u 40, u 41, u 42, u 43, u 44, u 45, u 46, u 47, u 48, u 49, u 50, u 51, u 52, u 53, u 54, u 55, u 56, u 57, u 58, u 59, u 60, u 61, u 62, u 63, u 64, u 65, u 66, u 67, u 68, u 69, u 70, u 71, u 72, u 73, u 74, u 75, u 76, u 77, u 78, u 79, u 80, u 81, u 82, u 83, u 84, u 85, u 86, u 87, u 88, u 89, u 90, u 91, u 92, u 93, u 94, u 95, u 96, u 97, u 98, u 99, u 100, u 101, u 102, u 103, u 104, u 105, u 106, u 107, u 108, u 109, u 110, u 111, u 112, u 113, u 114, u 115, u 116, u 117, u 118, u 119, u 120, u 121, u 122], defers := [] }
theorem jd_of {s t : ByteArray} {w : World} (tm : Array Value) (i : Nat) (hi : i ≤ s.size) (h : tm = #[.string s, .string t, tm.getD 2 undef, tm.getD 3 undef, tm.getD 4 undef, .int .i64 i, tm.getD 6 undef, tm.getD 7 undef, tm.getD 8 undef, tm.getD 9 undef, tm.getD 10 undef, tm.getD 11 undef, tm.getD 12 undef, tm.getD 13 undef, tm.getD 14 undef, tm.getD 15 undef, tm.getD 16 undef, tm.getD 17 undef, tm.getD 18 undef, tm.getD 19 undef, tm.getD 20 undef, tm.getD 21 undef, tm.getD 22 undef, tm.getD 23 undef, tm.getD 24 undef, tm.getD 25 undef, tm.getD 26 undef, tm.getD 27 undef, tm.getD 28 undef, tm.getD 29 undef, tm.getD 30 undef, tm.getD 31 undef, tm.getD 32 undef, tm.getD 33 undef, tm.getD 34 undef, tm.getD 35 undef, tm.getD 36 undef, tm.getD 37 undef, tm.getD 38 undef, tm.getD 39 undef, tm.getD 40 undef, tm.getD 41 undef, tm.getD 42 undef, tm.getD 43 undef, tm.getD 44 undef, tm.getD 45 undef, tm.getD 46 undef, tm.getD 47 undef, tm.getD 48 undef, tm.getD 49 undef, tm.getD 50 undef, tm.getD 51 undef, tm.getD 52 undef, tm.getD 53 undef, tm.getD 54 undef, tm.getD 55 undef, tm.getD 56 undef, tm.getD 57 undef, tm.getD 58 undef, tm.getD 59 undef, tm.getD 60 undef, tm.getD 61 undef, tm.getD 62 undef, tm.getD 63 undef, tm.getD 64 undef, tm.getD 65 undef, tm.getD 66 undef, tm.getD 67 undef, tm.getD 68 undef, tm.getD 69 undef, tm.getD 70 undef, tm.getD 71 undef, tm.getD 72 undef, tm.getD 73 undef, tm.getD 74 undef, tm.getD 75 undef, tm.getD 76 undef, tm.getD 77 undef, tm.getD 78 undef, tm.getD 79 undef, tm.getD 80 undef, tm.getD 81 undef, tm.getD 82 undef, tm.getD 83 undef, tm.getD 84 undef, tm.getD 85 undef, tm.getD 86 undef, tm.getD 87 undef, tm.getD 88 undef, tm.getD 89 undef, tm.getD 90 undef, tm.getD 91 undef, tm.getD 92 undef, tm.getD 93 undef, tm.getD 94 undef, tm.getD 95 undef, tm.getD 96 undef, tm.getD 97 undef, tm.getD 98 undef, tm.getD 99 undef, tm.getD 100 undef, tm.getD 101 undef, tm.getD 102 undef, tm.getD 103 undef, tm.getD 104 undef, tm.getD 105 undef, tm.getD 106 undef, tm.getD 107 undef, tm.getD 108 undef, tm.getD 109 undef, tm.getD 110 undef, tm.getD 111 undef, tm.getD 112 undef, tm.getD 113 undef, tm.getD 114 undef, tm.getD 115 undef, tm.getD 116 undef, tm.getD 117 undef, tm.getD 118 undef, tm.getD 119 undef, tm.getD 120 undef, tm.getD 121 undef, tm.getD 122 undef]) : Jd s t w { tmps := tm, defers := [] } w :=
  ⟨rfl, i, fun n => tm.getD n undef, hi, by rw [← h]⟩
set_option maxHeartbeats 2000000 in
set_option maxRecDepth 1000000 in
theorem fold8 (s t : ByteArray) (w : World) (hf : Fo s t) (hz : s.size ≤ 16777216) (hT : Lib.Utf8Tabs 3 4 w) :
    Calls Tryd.prog 8 #[.string s, .string t] w fun e w' => e = .returned (.bool true) ∧ Below w.heap.size w w' := by
  have HF := Lib.hid hf; have HT := Lib.hid hT
  have hlen := hf.len
  clear hf hT
  obtain ⟨M, hM⟩ : ∃ M : Nat, min (s.size : Int) (t.size : Int) = (M : Int) := ⟨s.size, by omega⟩
  have hMs : M = s.size := by omega
  go_enter Tryd.func8, Tryd.ntmps8
  go_wp2
  refine wp_scope_jumps 0 (Jd s t w) (fun _ _ => 0) rfl ?_ ?_
  · go_wp2
    go_loop [5] (fun a => ∃ i : Nat, i ≤ s.size ∧ a = .int .i64 i) (fun a => s.size - (intOf a).toNat)
    case atStart => exact ⟨0, by omega, rfl⟩
    case round =>
      obtain ⟨i, hi, rfl⟩ := hrel
      by_cases hlt : i < s.size
      · have hlt2 : i < t.size := by omega
        have hfb := HF.out.at_ i
        rw [gb_lt s i hlt, gb_lt t i hlt2] at hfb
        obtain ⟨x, hx⟩ : ∃ x : UInt8, s[i]'(by omega) = x := ⟨_, rfl⟩
        obtain ⟨y, hy⟩ : ∃ y : UInt8, t[i]'(by omega) = y := ⟨_, rfl⟩
        rw [hx, hy] at hfb
        have x256 := x.toNat_lt
        by_cases h8 : 128 ≤ x.toNat
        · have hxy : y = x := UInt8.toNat_inj.1 (fb_high hfb (by omega)).symm
          subst hxy
          have hor := or_self y.toNat (by omega)
          clear hfb
          go_wp2
          go_step3
          simp (config := { zetaDelta := true }) only [Exit.inBlock, Exit.then, Exit.jump]
          first | exact jd_of _ i (by omega) rfl | exact ⟨trivial, jd_of _ i (by omega) rfl⟩ | trace_state
        · have h8y : y.toNat < 128 := by rcases hfb with h | ⟨h1, h2, h3⟩ | ⟨h1, h2, h3⟩ <;> omega
          obtain ⟨hor, hor2⟩ := or_low x.toNat y.toNat (by omega) h8y
          obtain ⟨o, ho⟩ : ∃ o, (x.toNat ||| y.toNat) = o := ⟨_, rfl⟩
          rw [ho] at hor hor2
          clear ho
          rcases hfb with h | ⟨h1, h2, h3⟩ | ⟨h1, h2, h3⟩
          · obtain rfl : x = y := UInt8.toNat_inj.1 h
            go_wp2
            exact ⟨⟨i + 1, by omega, by go_num⟩, by simp [intOf]; omega⟩
          · have e1 : ((y.toNat : Int) == (x.toNat : Int)) = false := by rw [beq_eq_false_iff_ne]; omega
            have e2 : (y.toNat : Int) = (x.toNat : Int) + 32 := by omega
            rw [e2] at hor
            go_wp2
            exact ⟨⟨i + 1, by omega, by go_num⟩, by simp [intOf]; omega⟩
          · have e1 : ((y.toNat : Int) == (x.toNat : Int)) = false := by rw [beq_eq_false_iff_ne]; omega
            have e2 : (x.toNat : Int) = (y.toNat : Int) + 32 := by omega
            rw [e2] at hor
            go_wp2
            exact ⟨⟨i + 1, by omega, by go_num⟩, by simp [intOf]; omega⟩
      · obtain rfl : i = s.size := by omega
        go_wp2
        simp only [Exit.jump]
        go_ret
        exact ⟨rfl, Below.refl _ _⟩
  · rintro a' w' ⟨rfl, i, u, hi, rfl⟩
    go_upto_region 16 with (fail)
    have HF2 : Hid (Fo (s.extract i t.size) (t.extract i t.size)) := Lib.hid (by have := fo_extract HF.out i; rw [hlen] at this; exact this)
    have hS : (s.extract i t.size).size ≤ 16777216 := by rw [ByteArray.size_extract]; omega
    generalize s.extract i t.size = S at HF2 hS ⊢
    generalize t.extract i t.size = T at HF2 ⊢
    have hlen2 := HF2.out.len
    obtain ⟨t3, t4⟩ := tabs_lt HT.out
    clear HF hlen hM hMs hi hz
    go_wp2
    go_loopw [1, 10, 11, 12] (fun tv _ _ _ wr => Jn S T w' wr tv) (fun _ _ _ _ wr => S.size - wr.iterPos w'.heap.size)
    case atStart => exact ⟨0, by omega, World.iter_heap w' S 0, by rw [ext0], (Below.refl _ _).alloc (Nat.le_refl _) _⟩
    case round =>
      obtain ⟨p, hp, hit, rfl, hbel⟩ := hrel
      have hpos : wr.iterPos w'.heap.size = p := by unfold World.iterPos; rw [hit]
      have HPOS := Lib.hid hpos
      clear hpos
      by_cases hlt : p < S.size
      · have hnx := fun ty => Lib.run_next_any_at (P := Tryd.prog) wr w'.heap.size S p ty hit hlt
        have HB1 := Lib.hid (Lib.below_iterAt hbel (Nat.le_refl _) S (p + (Utf8.decode S p).2))
        have HIT := Lib.hid (Lib.iterAt_heap wr w'.heap.size S p (p + (Utf8.decode S p).2) hit)
        have hw1 := (dec_pos S p).1
        have hw2 := dec_le S p hlt
        have hb := HF2.out.at_ p
        have z0 : (T.extract p T.size).size = S.size - p := by rw [ByteArray.size_extract]; omega
        have hTd : Utf8.decode (T.extract p T.size) 0 = Utf8.decode T p := dec_extract T p 0
        have hEX : ∀ d, p + d ≤ S.size → (T.extract p T.size).extract d (T.extract p T.size).size = T.extract (p + d) T.size := fun d hd => ext_ext T p d (by omega)
        have HEX := Lib.hid hEX
        clear hEX
        generalize hTP : T.extract p T.size = TP at z0 hTd HEX ⊢
        clear hTP
        generalize hW1 : wr.iterAt w'.heap.size S (p + (Utf8.decode S p).2) = W1 at hnx HB1 HIT
        clear hW1
        obtain ⟨z, hz⟩ : ∃ z, TP.size = z := ⟨_, rfl⟩
        rw [hz] at HEX z0
        have z1 : 0 < z := by omega
        have zle : z ≤ 16777216 := by omega
        have zge : ∀ d, p + d ≤ S.size → d ≤ z := fun d h => by omega
        clear z0
        have FIN : Hid (∀ (d : Nat) (w4 : World), p + d ≤ S.size → 1 ≤ d → W1.heap[w'.heap.size]? = some (.stringIter S (p + d)) → Below W1.heap.size W1 w4 → Jn S T w' w4 (.string (TP.extract d z)) ∧ S.size - w4.iterPos w'.heap.size < S.size - wr.iterPos w'.heap.size) := Lib.hid fun d w4 h1 h2 h3 h4 => by
          have h5 : w4.heap[w'.heap.size]? = some (.stringIter S (p + d)) := (h4.block _ (Array.getElem?_eq_some_iff.1 h3).1).trans h3
          refine ⟨⟨p + d, h1, h5, by rw [HEX.out d h1], HB1.out.trans (h4.mono HB1.out.size)⟩, ?_⟩
          rw [HPOS.out]
          have : w4.iterPos w'.heap.size = p + d := by unfold World.iterPos; rw [h5]
          rw [this]; omega
        have D9 := Lib.hid (dec9 TP W1 (by omega) (by omega) (tabs_below HT.out HB1.out t3 t4))
        rw [hTd] at D9
        by_cases h8 : 128 ≤ gb S p
        · have hds := dec_same HF2.out p h8
          rw [← hds] at D9
          obtain ⟨q, hq⟩ : ∃ q, (Utf8.decode S p).1 = q := ⟨_, rfl⟩
          obtain ⟨d, hd⟩ : ∃ d, (Utf8.decode S p).2 = d := ⟨_, rfl⟩
          rw [hq] at hnx D9
          rw [hd] at D9 HIT hw1 hw2
          have hdz := zge d hw2
          have HD := Lib.hid hd
          clear hit hbel hb hTd h8 hds hq hd
          go_wp2_with (first | (go_at_call 9; refine D9.out.mono ?_; rintro e w4 ⟨rfl, hb4⟩) | fail)
          exact FIN.out d w4 hw2 hw1 HIT.out hb4
        · have hgT : gb T p < 128 := by rcases hb with h | ⟨h1, h2, h3⟩ | ⟨h1, h2, h3⟩ <;> omega
          have hs1 := dec_low S p (by omega)
          have hs2 := dec_low T p hgT
          rw [hs2] at D9
          rw [hs1] at HIT hw1 hw2 hnx
          have h1z := zge 1 hw2
          obtain ⟨x, hx⟩ : ∃ x, gb S p = x := ⟨_, rfl⟩
          obtain ⟨y, hy⟩ : ∃ y, gb T p = y := ⟨_, rfl⟩
          rw [hx] at h8 hnx hb
          rw [hy] at hb hgT D9
          clear hit hbel hTd hs1 hs2 hx hy
          rcases hb with rfl | ⟨b1, b2, b3⟩ | ⟨b1, b2, b3⟩
          · go_wp2_with (first | (go_at_call 9; refine D9.out.mono ?_; rintro e w4 ⟨rfl, hb4⟩) | fail)
            exact FIN.out 1 w4 hw2 hw1 HIT.out hb4
          · subst b3
            have e1 : (((x + 32 : Nat) : Int) == (x : Int)) = false := by rw [beq_eq_false_iff_ne]; omega
            go_wp2_with (first | (go_at_call 9; refine D9.out.mono ?_; rintro e w4 ⟨rfl, hb4⟩) | fail)
            exact FIN.out 1 w4 hw2 hw1 HIT.out hb4
          · subst b3
            have e1 : ((y : Int) == ((y + 32 : Nat) : Int)) = false := by rw [beq_eq_false_iff_ne]; omega
            go_wp2_with (first | (go_at_call 9; refine D9.out.mono ?_; rintro e w4 ⟨rfl, hb4⟩) | fail)
            exact FIN.out 1 w4 hw2 hw1 HIT.out hb4
      · have hnx := fun ty => Lib.run_next_end_at (P := Tryd.prog) wr w'.heap.size S p ty hit hlt
        have hz : (T.extract p T.size).size = 0 := by rw [ByteArray.size_extract]; omega
        generalize T.extract p T.size = TP at hz ⊢
        have HB := Lib.hid hbel
        clear hit hbel HF2
        go_wp2
        simp only [Exit.jump]
        go_ret
        exact ⟨rfl, HB.out⟩
end Go.Proofs.YteibgnldkimkoaaDoor.Fdw
