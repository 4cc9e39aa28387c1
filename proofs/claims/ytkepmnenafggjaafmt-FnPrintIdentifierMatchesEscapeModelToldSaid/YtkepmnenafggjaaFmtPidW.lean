/- The walk of the law FnPrintIdentifierMatchesEscapeModel: it returns true for every input. No condition. -/
import Derived.Test.YtkepmnenafggjaaFmtPrt
namespace Go.Proofs.YtkepmnenafggjaaFmt.fnPrintIdentifierMatchesEscapeModel
open Go.RowKit Go.Deep Go.Proofs.YtkepmnenafggjaaFmt.Base Go.Proofs.YtkepmnenafggjaaFmt.Sls Go.Proofs.YtkepmnenafggjaaFmt.Byw Go.Proofs.YtkepmnenafggjaaFmt.Dec Go.Proofs.YtkepmnenafggjaaFmt.Esc Go.Proofs.YtkepmnenafggjaaFmt.EscB Go.Proofs.YtkepmnenafggjaaFmt.Quo Go.Proofs.YtkepmnenafggjaaFmt.Prt
set_option linter.unusedVariables false
/-- If it says yes, what the arguments lead to is short. -/
theorem bytes4 (A0 : Option Addr) (n0 c0 : Nat) (s1 : ByteArray) (x2 : Value) (w : World) (hn0 : n0 ≤ maxLen) (hs1 : s1.size ≤ maxLen) :
    Calls Tryf.prog 4 #[.slice A0 n0 c0, .string s1, x2] w (Bd (n0 + s1.size ≤ 1048576) w) := by
  unfold maxLen at hn0
  unfold maxLen at hs1
  go_enter Tryf.func4, Tryf.ntmps4
  go_wp2
  all_goals first | (go_ret; exact ⟨false, rfl, (fun h => by cases h), rfl⟩) | skip
  go_ret
  exact ⟨true, rfl, (fun _ => by omega), rfl⟩

theorem nil_own {w : World} {base n c : Nat} {A : Option Addr} {xs : List Value} (h : Own w base 5 (.slice A n c) xs) : A = none → n = 0 ∧ c = 0 := by
  intro e
  subst e
  rcases h.2 with ⟨h1, _⟩ | ⟨g, cap, cur, h1, _⟩
  · injection h1 with _ h2 h3; exact ⟨h2, h3⟩
  · injection h1 with h2; cases h2
theorem Sl.trans {w0 w1 w2 : World} {r : Option Nat} {base n c n' c' : Nat} {A A' : Option Addr} {L L' : List UInt8} (h : Sl w0 w1 r base A n c L) (k : Sl w1 w2 (Value.slice A n c).ownBlock base A' n' c' L') : Sl w0 w2 r base A' n' c' L' :=
  ⟨k.own, k.len, grown_chain h.grown k.grown h.loc, fun g hg => by
    rcases k.loc g hg with e | e
    · exact h.loc g e
    · have := h.grown.size; exact .inr (by omega)⟩
/-- Both copies, and what has been wanted: the rows apart. -/
structure Mid (w W w3 : World) (A1 : Option Addr) (n c1 : Nat) (l : List UInt8) (A3 : Option Addr) (n3 c3 : Nat) (L : List UInt8) (m : Nat) : Prop where
  o1 : Own w3 w.heap.size 5 (.slice A1 n c1) (bv l)
  g1 : ∀ g, (Value.slice A1 n c1).ownBlock = some g → w.heap.size ≤ g ∧ g < m
  o3 : Own w3 m 5 (.slice A3 n3 c3) (bv L)
  len : n3 = L.length
  below : Below w.heap.size w w3
  le : w.heap.size ≤ m ∧ m ≤ w3.heap.size
theorem mid_of {w w1 w2 w3 : World} {A1 A2 A3 : Option Addr} {n c1 c2 n3 c3 : Nat} {l L : List UInt8} (hl : n = l.length) (o1 : Own w1 w.heap.size 5 (.slice A1 n c1) (bv l)) (b1 : Below w.heap.size w w1) (o2 : Own w2 w1.heap.size 5 (.slice A2 n c2) (bv l)) (b2 : Below w1.heap.size w1 w2)
    (s3 : Sl w2 w3 (Value.slice A2 n c2).ownBlock w1.heap.size A3 n3 c3 L) : Mid w w w3 A1 n c1 l A3 n3 c3 L w1.heap.size := by
  have G1 := o1.lt
  have G2 := o2.lt
  have z1 := b1.size
  have z2 := b2.size
  have z3 := s3.grown.size
  refine ⟨(o1.keep b2).to s3.grown ?_, fun g hg => G1 g hg, s3.own, s3.len, (b1.trans (b2.mono z1)).trans ?_, z1, by omega⟩
  · rcases h : (Value.slice A1 n c1).ownBlock with _ | g
    · exact .inl rfl
    · refine .inr fun e => ?_
      have := G1 g h; have := G2 g e.symm; omega
  · exact ⟨s3.grown.os, s3.grown.tape, s3.grown.output, s3.grown.size, fun i hi => s3.grown.block i (by omega) (fun e => by have := G2 i e.symm; omega)⟩
def Wl (w2 : World) (r2 : Option Nat) (base : Nat) (l : List UInt8) (s : ByteArray) (v i : Value) (wr : World) : Prop :=
  ∃ (k p : Nat) (A : Option Addr) (n c : Nat), v = .slice A n c ∧ i = .int .i64 p ∧ p = (st s k).1 ∧ p ≤ s.size ∧ Sl w2 wr r2 base A n c (l ++ (st s k).2)
theorem Wl.mk {w2 wr : World} {r2 : Option Nat} {base : Nat} {l : List UInt8} {s : ByteArray} (k p : Nat) (A : Option Addr) (n c : Nat) (hp : p = (st s k).1) (hps : p ≤ s.size) (h : Sl w2 wr r2 base A n c (l ++ (st s k).2)) : Wl w2 r2 base l s (.slice A n c) (.int .i64 p) wr := ⟨k, p, A, n, c, rfl, rfl, hp, hps, h⟩
set_option maxRecDepth 20000 in
set_option maxHeartbeats 4000000 in
theorem main (A : Option Addr) (n c : Nat) (l : List UInt8) (s : ByteArray) (a : Bool) (w : World) (hl : n = l.length) (hr : Rd w w.heap.size A (bv l)) (hnil : A = none → n = 0 ∧ c = 0) (hn : n ≤ maxLen) (hs : s.size ≤ maxLen) :
    Calls Tryf.prog 3 #[.slice A n c, .string s, .bool a] w fun e w' => e = .returned (.bool true) ∧ Below w.heap.size w w' := by
  have C4 := Lib.hid (bytes4 A n c s (.bool a) w hn hs)
  have HL := Lib.hid hl; have HR := Lib.hid hr; have HN := Lib.hid hnil
  clear hl hr hnil
  go_enter Tryf.func3, Tryf.ntmps3
  go_wp2_with fail
  refine C4.out.mono ?_
  rintro e w' ⟨ok, rfl, hok, rfl⟩
  clear C4
  cases ok
  · clear hok
    go_wp2_with fail
    go_ret
    exact ⟨rfl, Below.refl _ _⟩
  have hsum := hok rfl
  have hn1 : n ≤ 1048576 := by omega
  have hs1 : s.size ≤ 1048576 := by omega
  have i1 : ¬ (1048576 : Int) < (n : Int) := by omega
  have i2 : ¬ (1048576 : Int) < (s.size : Int) := by omega
  have i3 : ¬ (1048576 : Int) < (n : Int) + (s.size : Int) := by omega
  clear hok
  cases a
  · have C1 := Lib.hid (cloneB A n c l w HL.out.symm (by omega) HN.out HR.out)
    go_wp2_with fail
    refine C1.out.mono ?_
    rintro e w1 ⟨A1, c1, rfl, o1, b1⟩
    have C2 := Lib.hid (cloneB A1 n c1 l w1 HL.out.symm (by omega) (nil_own o1) (by have := o1; rw [HL.out, ← bv_len] at this; exact this.rd))
    have HO1 := Lib.hid o1; have HB1 := Lib.hid b1
    clear o1 b1 C1
    go_wp2_with fail
    refine C2.out.mono ?_
    rintro e w2 ⟨A2, c2, rfl, o2, b2⟩
    have HO2 := Lib.hid o2; have HB2 := Lib.hid b2
    clear o2 b2 C2
    have C7 := Lib.hid (appStr A2 n c2 w1.heap.size l s w2 (by have := HL.out; omega) HL.out HO2.out HB2.out.size)
    go_wp2_with fail
    refine C7.out.mono ?_
    rintro e w3 ⟨A3, n3, c3, rfl, s3⟩
    have M3 := Lib.hid (mid_of HL.out HO1.out HB1.out HO2.out HB2.out s3)
    clear s3 C7
    have ML := Lib.hid (M3.out.le)
    go_wp2_with fail
    refine (new10 false A1 n c1 w3).mono ?_
    rintro e w4 ⟨rfl, p4, b4⟩
    have z4 := p4.lt
    have o14 := M3.out.o1.keep b4
    have o34 := M3.out.o3.keep b4
    have P11 := Lib.hid (pid11 (w3.heap.size + 2) w.heap.size n c1 false A1 l s w4 hn1 hs1 HL.out p4 o14 (by have := b4.size; have := ML.out; omega) (fun h => by cases h))
    have G3 := o34.lt
    have E3 := own_ne p4 o34
    have HG3 := Lib.hid G3; have HE3 := Lib.hid E3; have HO3 := Lib.hid o34; have HB4 := Lib.hid b4
    have zz := b4.size
    clear p4 b4 o14 o34 G3 E3 z4
    go_wp2_with fail
    refine (P11.out.mono (fun e w' h => h.ends)).mono ?_
    rintro e w5 ⟨rfl, A6, n6, c6, _, p6, len6, o6, T6⟩
    simp only [if_neg Bool.false_ne_true] at len6 o6
    obtain rfl : n6 = n3 := by rw [len6, M3.out.len]
    have HJ := Lib.hid (js13 _ _ _ _ _ w5 p6)
    have o36 : Own w5 w1.heap.size 5 (.slice A3 n6 c3) (bv (l ++ s.data.toList)) := T6.own HO3.out (by
      rcases h : (Value.slice A3 n6 c3).ownBlock with _ | g
      · exact .inl rfl
      · refine .inr fun e => ?_
        have := HG3.out g h; have := M3.out.g1 g e.symm; omega) HE3.out
    have B5 : Below w.heap.size w w5 := (M3.out.below.trans (HB4.out.mono M3.out.below.size)).trans (T6.below (by have := ML.out; omega) (fun g e => (M3.out.g1 g e).1) (by have := ML.out; omega))
    have r6 : Rd w5 w5.heap.size A6 (bv (l ++ s.data.toList)) := by
      rw [len6, ← bv_len] at o6; exact o6.rd
    have r3 : Rd w5 w5.heap.size A3 (bv (l ++ s.data.toList)) := by
      rw [len6, ← bv_len] at o36; exact o36.rd
    have EQ := Lib.hid (same_any A6 A3 n6 c6 c3 (l ++ s.data.toList) w5 len6.symm (by rw [M3.out.len, List.length_append, len_list, ← HL.out]; omega) r6 r3)
    have HB5 := Lib.hid B5
    clear p6 len6 o6 T6 o36 B5 r6 r3
    go_wp2_with fail
    refine HJ.out.mono ?_
    rintro e w' ⟨rfl, rfl⟩
    go_wp2_with fail
    refine EQ.out.mono ?_
    rintro e w' ⟨rfl, k9, rfl⟩
    go_wp2
    go_ret
    exact ⟨rfl, below_draws HB5.out k9⟩
  · have C5 := Lib.hid (non5 s w hs1)
    go_wp2_with fail
    refine C5.out.mono ?_
    rintro e w' ⟨big, q0, rfl, hbig, rfl⟩
    clear C5
    cases big
    · have HBM := Lib.hid (hbig rfl)
      clear hbig
      have C1 := Lib.hid (cloneB A n c l (w.drewN q0) HL.out.symm (by omega) HN.out (HR.out.to fun _ _ => rfl))
      go_wp2_with fail
      refine C1.out.mono ?_
      rintro e w1 ⟨A1, c1, rfl, o1, b1⟩
      have C2 := Lib.hid (cloneB A1 n c1 l w1 HL.out.symm (by omega) (nil_own o1) (by have := o1; rw [HL.out, ← bv_len] at this; exact this.rd))
      have HO1 := Lib.hid o1; have HB1 := Lib.hid b1
      clear o1 b1 C1
      go_wp2_with fail
      refine C2.out.mono ?_
      rintro e w2 ⟨A2, c2, rfl, o2, b2⟩
      have HO2 := Lib.hid o2; have HB2 := Lib.hid b2
      clear o2 b2 C2
      have S2 := Lib.hid (Sl.start HO2.out HL.out)
      obtain ⟨r2, hr2⟩ : ∃ r2, r2 = (Value.slice A2 n c2).ownBlock := ⟨_, rfl⟩
      rw [← hr2] at S2
      have HR2 := Lib.hid hr2
      clear hr2
      go_wp2
      go_loopw [7, 8] (fun v i wr => Wl w2 r2 w1.heap.size l s v i wr) (fun _ i _ => s.size - (intOf i).toNat)
      case atStart => exact Wl.mk 0 0 A2 n c2 rfl (by omega) (by simpa [st] using S2.out)
      case round =>
        obtain ⟨k, p, A, n', c, rfl, rfl, hp, hps, hsl⟩ := hrel
        have HP := Lib.hid hp
        have HS := Lib.hid hsl
        have zs := hsl.grown.size
        have zb := HB2.out.size
        have hml : (bv (l ++ (st s k).2)).length ≤ 16777216 := by
          rw [bv_len, List.length_append, ← HL.out]; have := st_len s k; have := st_le s k; omega
        have hml2 : (l ++ (st s k).2).length ≤ 16777216 := by rw [← bv_len]; exact hml
        clear hp hsl
        by_cases hlt : p < s.size
        · have C := Lib.hid (dec_any s p wr hs1 hlt)
          have hw := decode_width s p hlt
          have ST : Hid (st s (k + 1) = (p + (Utf8.decode s p).2, (st s k).2 ++ outc (Utf8.decode s p).1)) := Lib.hid (by rw [st_step (by rw [← HP.out]; exact hlt), ← HP.out])
          have hbm := HBM.out k (by rw [← HP.out]; exact hlt)
          rw [← HP.out] at hbm
          obtain ⟨q, hq⟩ : ∃ q, (Utf8.decode s p).1 = q := ⟨_, rfl⟩
          obtain ⟨m, hm⟩ : ∃ m, (Utf8.decode s p).2 = m := ⟨_, rfl⟩
          rw [hq, hm] at C ST
          rw [hm] at hw
          rw [hq] at hbm
          obtain ⟨hw1, hw2⟩ := hw
          clear hq hm
          go_wp2_with fail
          refine C.out.mono ?_
          rintro e w' ⟨kd, rfl, rfl⟩
          have SD : Hid (Sl w2 (wr.drewN kd) r2 w1.heap.size A n' c (l ++ (st s k).2)) := Lib.hid ⟨HS.out.own, HS.out.len, ⟨HS.out.grown.os, HS.out.grown.tape, HS.out.grown.output, HS.out.grown.size, HS.out.grown.block⟩, HS.out.loc⟩
          have zd : w1.heap.size ≤ (wr.drewN kd).heap.size := by show w1.heap.size ≤ wr.heap.size; omega
          generalize wr.drewN kd = wd at SD zd ⊢
          clear C HS
          by_cases h32 : 32 ≤ q
          · by_cases h126 : q ≤ 126
            · have HNEWS : Hid ([.int .u8 (q : Int)] = bv (outc q)) := Lib.hid (by
                unfold outc; rw [if_pos ⟨h32, h126⟩]
                unfold bv
                simp [UInt8.toNat_ofNat']
                omega)
              have y1 : (32 : Int) ≤ (q : Int) := by omega
              have y2 : (q : Int) ≤ 126 := by omega
              go_wp2_with (at_builtin; refine append_any _ rfl (.tmp 63) (.tmp 66) 22 5 rfl w1.heap.size Tryf.underlying22 (.int .u8 0) 1 rfl (by omega) infoB (.slice A n' c) (bv (l ++ (st s k).2)) rfl (SD.out.own.alloc _) (wd.heap.size + 1) (some ⟨wd.heap.size, 0, none⟩) 1 1 [.int .u8 (q : Int)] rfl rfl (rd_cells _ _ _) (one_u8 [(q : Int)]) (by omega) (le_alloc zd _) ?_; intro v9 w9 o9 g9 at9; rw [HNEWS.out] at o9; obtain ⟨A9, n9, c9, rfl, S9⟩ := SD.out.next (k := outc q) g9 o9 at9; have HS9 := Lib.hid S9; clear S9 o9 g9 at9)
              rw [List.append_assoc] at HS9
              go_roundw
              case rel => first | exact Wl.mk (k + 1) (p + m) A9 n9 c9 (by rw [ST.out]) hw2 (by rw [ST.out]; exact HS9.out) | ((repeat apply Exists.intro); exact ⟨Wl.mk (k + 1) (p + m) A9 n9 c9 (by rw [ST.out]) hw2 (by rw [ST.out]; exact HS9.out), by simp⟩)
              case measure => simp [intOf]; omega
            · have hno : ¬ (32 ≤ q ∧ q ≤ 126) := by omega
              have y1 : (32 : Int) ≤ (q : Int) := by omega
              have y2 : ¬ (q : Int) ≤ 126 := by omega
              have C9 := Lib.hid (esc9 A n' c w1.heap.size (l ++ (st s k).2) q wd hml2 SD.out.len hbm hno SD.out.own zd)
              clear hno
              go_wp2_with fail
              refine C9.out.mono ?_
              rintro e w9 ⟨A9, n9, c9, rfl, s9⟩
              have HS9 := Lib.hid (Sl.trans SD.out s9)
              rw [List.append_assoc] at HS9
              clear s9 C9
              go_wp2
              go_roundw
              case rel => first | exact Wl.mk (k + 1) (p + m) A9 n9 c9 (by rw [ST.out]) hw2 (by rw [ST.out]; exact HS9.out) | ((repeat apply Exists.intro); exact ⟨Wl.mk (k + 1) (p + m) A9 n9 c9 (by rw [ST.out]) hw2 (by rw [ST.out]; exact HS9.out), by simp⟩)
              case measure => simp [intOf]; omega
          · have hno : ¬ (32 ≤ q ∧ q ≤ 126) := by omega
            have y1 : ¬ (32 : Int) ≤ (q : Int) := by omega
            have C9 := Lib.hid (esc9 A n' c w1.heap.size (l ++ (st s k).2) q wd hml2 SD.out.len hbm hno SD.out.own zd)
            clear hno
            go_wp2_with fail
            refine C9.out.mono ?_
            rintro e w9 ⟨A9, n9, c9, rfl, s9⟩
            have HS9 := Lib.hid (Sl.trans SD.out s9)
            rw [List.append_assoc] at HS9
            clear s9 C9
            go_wp2
            go_roundw
            case rel => first | exact Wl.mk (k + 1) (p + m) A9 n9 c9 (by rw [ST.out]) hw2 (by rw [ST.out]; exact HS9.out) | ((repeat apply Exists.intro); exact ⟨Wl.mk (k + 1) (p + m) A9 n9 c9 (by rw [ST.out]) hw2 (by rw [ST.out]; exact HS9.out), by simp⟩)
            case measure => simp [intOf]; omega
        · have ES := Lib.hid (esc_of (s := s) (k := k) (by rw [← HP.out]; exact hlt))
          have S3 := Lib.hid HS.out
          rw [ES.out] at S3
          obtain ⟨w3, rfl⟩ : ∃ w3 : World, w3 = wr := ⟨_, rfl⟩
          obtain ⟨A3, rfl⟩ : ∃ A3 : Option Addr, A3 = A := ⟨_, rfl⟩
          obtain ⟨n3, rfl⟩ : ∃ n3 : Nat, n3 = n' := ⟨_, rfl⟩
          obtain ⟨c3, rfl⟩ : ∃ c3 : Nat, c3 = c := ⟨_, rfl⟩
          rw [HR2.out] at S3
          have M3' := Lib.hid (mid_of HL.out HO1.out HB1.out HO2.out HB2.out S3.out)
          have M3 : Hid (Mid w w w3 A1 n c1 l A3 n3 c3 (l ++ esc s) w1.heap.size) := Lib.hid ⟨M3'.out.o1, M3'.out.g1, M3'.out.o3, M3'.out.len, (below_draws (Below.refl w.heap.size w) q0).trans M3'.out.below, M3'.out.le⟩
          have hel : (esc s).length ≤ 6291456 := by unfold esc; have := st_len s s.size; have := st_le s s.size; omega
          clear hml hml2 S3 HS M3' ES
          have ML := Lib.hid (M3.out.le)
          go_wp2_with fail
          refine (new10 true A1 n c1 w3).mono ?_
          rintro e w4 ⟨rfl, p4, b4⟩
          have z4 := p4.lt
          have o14 := M3.out.o1.keep b4
          have o34 := M3.out.o3.keep b4
          have P11 := Lib.hid (pid11 (w3.heap.size + 2) w.heap.size n c1 true A1 l s w4 hn1 hs1 HL.out p4 o14 (by have := b4.size; have := ML.out; omega) (fun _ => HBM.out))
          have G3 := o34.lt
          have E3 := own_ne p4 o34
          have HG3 := Lib.hid G3; have HE3 := Lib.hid E3; have HO3 := Lib.hid o34; have HB4 := Lib.hid b4
          have zz := b4.size
          clear p4 b4 o14 o34 G3 E3 z4
          go_wp2_with fail
          refine (P11.out.mono (fun e w' h => h.ends)).mono ?_
          rintro e w5 ⟨rfl, A6, n6, c6, _, p6, len6, o6, T6⟩
          simp only [if_true] at len6 o6
          obtain rfl : n6 = n3 := by rw [len6, M3.out.len]
          have HJ := Lib.hid (js13 _ _ _ _ _ w5 p6)
          have o36 : Own w5 w1.heap.size 5 (.slice A3 n6 c3) (bv (l ++ esc s)) := T6.own HO3.out (by
            rcases h : (Value.slice A3 n6 c3).ownBlock with _ | g
            · exact .inl rfl
            · refine .inr fun e => ?_
              have := HG3.out g h; have := M3.out.g1 g e.symm; omega) HE3.out
          have B5 : Below w.heap.size w w5 := (M3.out.below.trans (HB4.out.mono M3.out.below.size)).trans (T6.below (by have := ML.out; omega) (fun g e => (M3.out.g1 g e).1) (by have := ML.out; omega))
          have r6 : Rd w5 w5.heap.size A6 (bv (l ++ esc s)) := by
            rw [len6, ← bv_len] at o6; exact o6.rd
          have r3 : Rd w5 w5.heap.size A3 (bv (l ++ esc s)) := by
            rw [len6, ← bv_len] at o36; exact o36.rd
          have EQ := Lib.hid (same_any A6 A3 n6 c6 c3 (l ++ esc s) w5 len6.symm (by rw [M3.out.len, List.length_append, ← HL.out]; omega) r6 r3)
          have HB5 := Lib.hid B5
          clear p6 len6 o6 T6 o36 B5 r6 r3
          go_wp2_with fail
          refine HJ.out.mono ?_
          rintro e w' ⟨rfl, rfl⟩
          go_wp2_with fail
          refine EQ.out.mono ?_
          rintro e w' ⟨rfl, k9, rfl⟩
          go_wp2
          go_ret
          exact ⟨rfl, below_draws HB5.out k9⟩
    · clear hbig
      go_wp2_with fail
      go_ret
      exact ⟨rfl, below_draws (Below.refl _ _) q0⟩
theorem walk (a0 : Option Addr) (len0 cap0 : Nat) (z0 : List Int) (a1 : ByteArray) (a2 : Bool) (w : World) (w0 : IsRow .u8 w a0 len0 cap0 z0) (w1 : a1.size ≤ maxLen) :
    Calls Tryf.prog 3 #[.slice a0 len0 cap0, .string a1, .bool a2] w fun e w' => e = .returned (.bool true) ∧ Below w.heap.size w w' := by
  obtain ⟨⟨l, hl, hr⟩, hnil, hn⟩ := rd_of_bytes w0
  exact main a0 len0 cap0 l a1 a2 w hl.symm hr hnil hn w1
end Go.Proofs.YtkepmnenafggjaaFmt.fnPrintIdentifierMatchesEscapeModel
