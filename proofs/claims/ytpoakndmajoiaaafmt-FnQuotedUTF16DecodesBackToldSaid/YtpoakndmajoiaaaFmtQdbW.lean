/- The walk of the law FnQuotedUTF16DecodesBack: it returns true for every input. No condition. -/
import Derived.Test.YtpoakndmajoiaaaFmtWrp
import Derived.Test.YtpoakndmajoiaaaFmtDcb
import Derived.Test.YtpoakndmajoiaaaFmtRows
namespace Go.Proofs.YtpoakndmajoiaaaFmt.fnQuotedUTF16DecodesBack
open Go.RowKit Go.Deep Go.Proofs.YtpoakndmajoiaaaFmt.Base Go.Proofs.YtpoakndmajoiaaaFmt.Sls Go.Proofs.YtpoakndmajoiaaaFmt.Byw Go.Proofs.YtpoakndmajoiaaaFmt.Unb
set_option linter.unusedVariables false
theorem rd_of_units {w : World} {a : Option Addr} {len cap : Nat} {zs : List Int} (h : IsRow .u16 w a len cap zs) : (∃ U : List Nat, U.length = len ∧ Rd w w.heap.size a (uv U) ∧ Dcs.Wf U) ∧ (a = none → len = 0 ∧ cap = 0) ∧ len ≤ maxLen := by
  rcases h with ⟨rfl, rfl, rfl, rfl⟩ | ⟨x, rfl, hlc, hm, hz, hc, hw⟩
  · exact ⟨⟨[], rfl, fun hl => absurd hl (by simp [uv]), fun k hk => absurd hk (by simp)⟩, fun _ => ⟨rfl, rfl⟩, by unfold maxLen; omega⟩
  · have m0 : IntKind.u16.min = 0 := rfl
    have m1 : IntKind.u16.max = 65535 := rfl
    refine ⟨⟨(zs.take len).map fun z => z.toNat, by simp; omega, fun hl => ⟨x, rfl, ?_, fun j c hj => ?_⟩, fun k hk => ?_⟩, fun h => (by cases h), by omega⟩
    · have h0 := hc 0 (by rw [uv_len] at hl; simp at hl; omega)
      have := lt_cell h0
      rw [add_block] at this; exact this
    · simp only [uv, List.getElem?_map, List.getElem?_take] at hj
      by_cases hjl : j < len
      · rw [if_pos hjl] at hj
        have hjz : j < zs.length := by omega
        rw [List.getElem?_eq_getElem hjz] at hj
        simp at hj
        rw [hc j hjz]
        have hwf := hw _ (List.getElem_mem hjz)
        have e : zs.getD j 0 = zs[j] := by simp [List.getD, hjz]
        rw [e, ← hj]
        simp [Lit.wf, m0, m1] at hwf
        congr 2
        omega
      · rw [if_neg hjl] at hj; simp at hj
    · simp only [List.length_map, List.length_take] at hk
      have hjz : k < zs.length := by omega
      have hwf := hw _ (List.getElem_mem hjz)
      simp [Lit.wf, m0, m1] at hwf
      have e : ((zs.take len).map fun z => z.toNat).getD k 0 = zs[k].toNat := by
        simp only [List.getD, List.getElem?_map, List.getElem?_take]
        rw [if_pos (by omega), List.getElem?_eq_getElem hjz]
        rfl
      rw [e]
      omega
theorem nil_own {w : World} {base n c e : Nat} {A : Option Addr} {xs : List Value} (h : Own w base e (.slice A n c) xs) : n = xs.length := by
  obtain ⟨A', c', h1⟩ := h.form
  injection h1
/-- The quote that is taken. -/
theorem quote_is (mi ab nt : Bool) (U : List Nat) : ∃ q : Nat, (q = 34 ∨ q = 39 ∨ q = 96) ∧ (q = 96 → ab = true ∧ nt = false) ∧ Pqt.quoted mi (ab && !nt) U = [UInt8.ofNat q] ++ Esq.rest U q 0 ++ [UInt8.ofNat q] := by
  refine ⟨Pqt.qch mi (ab && !nt) U, ?_, ?_, rfl⟩
  · unfold Pqt.qch
    repeat' split
    all_goals simp
  · unfold Pqt.qch
    intro h
    have hf : (ab && !nt) = true := by
      rcases hb : (ab && !nt) with _ | _
      · rw [hb] at h
        simp at h
        split at h <;> omega
      · rfl
    revert hf
    cases ab <;> cases nt <;> simp
/-- What the literal's bytes are, as they stand. -/
structure Lt (w : World) (g R q : Nat) (T : List UInt8) : Prop where
  c0 : w.cell? ⟨g, 0, none⟩ = some (.int .u8 (q : Int))
  c1 : w.cell? ⟨g, R + 1, none⟩ = some (.int .u8 (q : Int))
  rd : Rd w w.heap.size (some ⟨g, 1, none⟩) (bv T)
theorem lt_of {w : World} {base n c q : Nat} {A : Option Addr} {T : List UInt8} (hq : q < 256) (h : Own w base 5 (.slice A n c) (bv ([UInt8.ofNat q] ++ T ++ [UInt8.ofNat q]))) : ∃ g, A = some ⟨g, 0, none⟩ ∧ n = T.length + 2 ∧ n ≤ c ∧ c ≤ maxLen ∧ Lt w g T.length q T := by
  have hl : (bv ([UInt8.ofNat q] ++ T ++ [UInt8.ofNat q])).length = T.length + 2 := by rw [bv_len]; simp
  rcases h with ⟨_, h0⟩ | ⟨g, cap, cur, mk, hv, hb, hh, hmk, hn, hm, hs, ht⟩
  · rw [h0] at hl; simp at hl
  · have hc := Own.cells (w := w) (base := base) (e := 5) (.inr ⟨g, cap, cur, mk, rfl, hb, hh, hmk, hn, hm, hs, ht⟩) (g := g) rfl
    injection hv with e1 e2 e3
    subst e3
    have e8 : ((UInt8.ofNat q).toNat : Int) = (q : Int) := by rw [UInt8.toNat_ofNat_of_lt' (by show q < 256; omega)]
    have ad : ∀ j, (⟨g, 0, none⟩ : Addr).add j = ⟨g, j, none⟩ := fun j => by unfold Addr.add; split <;> simp_all
    have ad1 : ∀ j, (⟨g, 1, none⟩ : Addr).add j = ⟨g, 1 + j, none⟩ := fun j => by unfold Addr.add; split <;> simp_all
    refine ⟨g, e1, by rw [e2, hl], by rw [e2]; exact hn, hm, ⟨?_, ?_, fun hl0 => ⟨_, rfl, lt_of_block hh, fun j u hj => ?_⟩⟩⟩
    · have := hc 0 (.int .u8 (q : Int)) (by rw [bv_get]; simp; omega)
      rw [ad] at this; exact this
    · have := hc (T.length + 1) (.int .u8 (q : Int)) (by rw [bv_get, List.getElem?_append_right (by simp)]; simp; omega)
      rw [ad] at this; exact this
    · have hjl := (List.getElem?_eq_some_iff.1 hj).1
      rw [bv_len] at hjl
      have := hc (1 + j) u (by
        rw [bv_get] at hj ⊢
        rw [List.getElem?_append_left (by simp; omega), List.getElem?_append_right (by simp)]
        simpa using hj)
      rw [ad] at this
      rw [ad1]
      exact this
set_option maxRecDepth 20000 in
set_option maxHeartbeats 4000000 in
theorem main (A : Option Addr) (n c : Nat) (U : List Nat) (ab nt mi : Bool) (w : World) (hl : U.length = n) (hr : Rd w w.heap.size A (uv U)) (hW : Dcs.Wf U) (hnil : A = none → n = 0 ∧ c = 0) (hn : n ≤ maxLen) :
    Calls Tryf.prog 3 #[.slice A n c, .bool ab, .bool nt, .bool mi] w fun e w' => e = .returned (.bool true) ∧ Below w.heap.size w w' := by
  have C4 := Lib.hid (Wrp.bytes4 A n c (.bool ab) (.bool nt) (.bool mi) w hn)
  have HL := Lib.hid hl; have HR := Lib.hid hr; have HN := Lib.hid hnil; have HW := Lib.hid hW
  clear hl hr hnil hW
  go_enter Tryf.func3, Tryf.ntmps3
  go_wp2_with fail
  refine C4.out.mono ?_
  rintro e w' ⟨ok, rfl, hok, rfl⟩
  clear C4
  cases ok
  · clear hok
    go_wp2_with fail
    go_ret
    exact ⟨rfl, Below.refl _ _⟩
  have hsum := hok rfl
  have hn1 : n ≤ 1048576 := by omega
  clear hok
  by_cases hbig : n ≤ 524288
  · have i1 : ¬ (524288 : Int) < (n : Int) := by omega
    obtain ⟨q, hq3, hqf, hL⟩ := quote_is mi ab nt U
    have hRl := Esq.rest_len U q U.length 0
    have hBod := Lib.hid (Dcs.body U q HW.out hq3)
    have C5 := Lib.hid (Wrp.cloneU A n c U w HL.out (by omega) HN.out HR.out)
    have C6 := Lib.hid (fun (A1 : Option Addr) (c1 : Nat) (w1 : World) (h : Own w1 w.heap.size 29 (.slice A1 n c1) (uv U)) => Wrp.run6 n c1 w.heap.size ab nt mi A1 U w1 h HL.out.symm HW.out (by have := HL.out; omega))
    rw [hL] at C6
    obtain ⟨T, hT⟩ : ∃ T, T = Esq.rest U q 0 := ⟨_, rfl⟩
    rw [← hT] at C6 hBod
    have hTl : T.length ≤ 6 * n := by rw [hT, ← HL.out]; exact hRl
    clear hL hT hRl hbig HR HN
    go_upto_region 7 with (first | (go_at_call 5; refine C5.out.mono ?_; rintro e w1 ⟨A1, c1, rfl, o1, b1⟩; have O1 := Lib.hid o1; have B1 := Lib.hid b1; have D6 := Lib.hid (C6.out A1 c1 w1 o1); clear o1 b1 C5 C6) | (go_at_call 6; refine D6.out.mono ?_; rintro e w2 ⟨A2, M, c2, rfl, hn2, o2, b2⟩; have O2 := Lib.hid o2; have B2 := Lib.hid b2; clear hn2 o2 b2) | fail)
    obtain ⟨g, rfl, hM, hc2, hcm, hLt⟩ := lt_of (by omega) O2.out
    have C7 := Lib.hid (Dcb.dec7 w2 (some ⟨g, 1, none⟩) (c2 - 1) T U q hLt.rd hBod.out (by omega) hq3)
    have c0 := hLt.c0
    have c1' := hLt.c1
    obtain ⟨R, hR⟩ : ∃ R, R = T.length := ⟨_, rfl⟩
    obtain ⟨P, hP⟩ : ∃ P, P = R + 1 := ⟨_, rfl⟩
    rw [← hR] at hM c1' C7 hTl
    rw [← hP] at c1'
    have m2 : (2 : Int) ≤ (M : Int) := by omega
    have m0 : (0 : Int) < (M : Int) := by omega
    have m1 : (M : Int) - 1 = (P : Int) := by omega
    have p1 : (1 : Int) ≤ (P : Int) := by omega
    have p2 : (P : Int) < (M : Int) := by omega
    have p3 : (P : Int) ≤ (c2 : Int) := by omega
    have hMm : (M : Int) ≤ 3145730 := by omega
    have n1c : ¬ c2 = 1 := by omega
    have HP := Lib.hid hP
    clear O2 hLt hR hBod D6 hTl hM hP hc2 hcm
    have pr : P - 1 = R := by have := HP.out; omega
    rcases hq3 with rfl | rfl | rfl
    · clear hqf
      have d0 : w2.cell? ⟨g, 0, none⟩ = some (.int .u8 34) := c0
      have d1 : w2.cell? ⟨g, P, none⟩ = some (.int .u8 34) := c1'
      have D7 : Hid (Calls Tryf.prog 7 #[.slice (some ⟨g, 1, none⟩) R (c2 - 1), .int .u8 34] w2 (Dcb.Dd U w2)) := Lib.hid C7.out
      clear c0 c1' C7
      go_wp2_with (first | (go_at_call 7; refine D7.out.mono ?_; rintro e w3 ⟨A3, n3, c3, rfl, hn3, o3, b3⟩; have RA := Lib.hid ((O1.out.keep B2.out).keep b3).rd; have RB := Lib.hid o3.rd; have HBW := Lib.hid ((B1.out.trans (B2.out.mono B1.out.size)).trans (b3.mono (Nat.le_trans B1.out.size B2.out.size))); have hn4 := hn3.trans HL.out; clear hn3 o3 b3 D7; subst hn4; clear O1 B1 B2 d0 d1) | fail)
      go_loopw [13] (fun i wr => ∃ k j : Nat, k ≤ n3 ∧ i = .int .i64 k ∧ wr = w3.drewN j) (fun i _ => n3 - (intOf i).toNat)
      case atStart => exact ⟨0, 0, Nat.zero_le _, rfl, rfl⟩
      case round =>
        obtain ⟨k, j, hk, rfl, rfl⟩ := hrel
        by_cases hlt : k < n3
        · have hkl : k < U.length := by rw [HL.out]; exact hlt
          obtain ⟨x, rfl, _, hx⟩ := RA.out.at_ (Wrp.uv_get U k hkl)
          obtain ⟨y, rfl, _, hy⟩ := RB.out.at_ (Wrp.uv_get U k hkl)
          obtain ⟨u, hu⟩ : ∃ u : Int, u = (U[k] : Int) := ⟨_, rfl⟩
          rw [← hu] at hx hy
          clear hu hkl
          have x2 : (k : Int) < (n3 : Int) := by omega
          have zz : (u != u) = false := by simp
          go_wp2_with (fail)
          go_quiet (fail)
          go_wp2_with (fail)
          go_roundw
          case rel => exact ⟨k + 1, _, by omega, by go_num, rfl⟩
          case measure => simp [intOf]; omega
        · have x2 : ¬ (k : Int) < (n3 : Int) := by omega
          go_wp2_with (fail)
          go_ret
          exact ⟨rfl, HBW.out.trans ⟨rfl, rfl, rfl, Nat.le_refl _, fun _ _ => rfl⟩⟩
    · clear hqf
      have d0 : w2.cell? ⟨g, 0, none⟩ = some (.int .u8 39) := c0
      have d1 : w2.cell? ⟨g, P, none⟩ = some (.int .u8 39) := c1'
      have D7 : Hid (Calls Tryf.prog 7 #[.slice (some ⟨g, 1, none⟩) R (c2 - 1), .int .u8 39] w2 (Dcb.Dd U w2)) := Lib.hid C7.out
      clear c0 c1' C7
      go_wp2_with (first | (go_at_call 7; refine D7.out.mono ?_; rintro e w3 ⟨A3, n3, c3, rfl, hn3, o3, b3⟩; have RA := Lib.hid ((O1.out.keep B2.out).keep b3).rd; have RB := Lib.hid o3.rd; have HBW := Lib.hid ((B1.out.trans (B2.out.mono B1.out.size)).trans (b3.mono (Nat.le_trans B1.out.size B2.out.size))); have hn4 := hn3.trans HL.out; clear hn3 o3 b3 D7; subst hn4; clear O1 B1 B2 d0 d1) | fail)
      go_loopw [13] (fun i wr => ∃ k j : Nat, k ≤ n3 ∧ i = .int .i64 k ∧ wr = w3.drewN j) (fun i _ => n3 - (intOf i).toNat)
      case atStart => exact ⟨0, 0, Nat.zero_le _, rfl, rfl⟩
      case round =>
        obtain ⟨k, j, hk, rfl, rfl⟩ := hrel
        by_cases hlt : k < n3
        · have hkl : k < U.length := by rw [HL.out]; exact hlt
          obtain ⟨x, rfl, _, hx⟩ := RA.out.at_ (Wrp.uv_get U k hkl)
          obtain ⟨y, rfl, _, hy⟩ := RB.out.at_ (Wrp.uv_get U k hkl)
          obtain ⟨u, hu⟩ : ∃ u : Int, u = (U[k] : Int) := ⟨_, rfl⟩
          rw [← hu] at hx hy
          clear hu hkl
          have x2 : (k : Int) < (n3 : Int) := by omega
          have zz : (u != u) = false := by simp
          go_wp2_with (fail)
          go_quiet (fail)
          go_wp2_with (fail)
          go_roundw
          case rel => exact ⟨k + 1, _, by omega, by go_num, rfl⟩
          case measure => simp [intOf]; omega
        · have x2 : ¬ (k : Int) < (n3 : Int) := by omega
          go_wp2_with (fail)
          go_ret
          exact ⟨rfl, HBW.out.trans ⟨rfl, rfl, rfl, Nat.le_refl _, fun _ _ => rfl⟩⟩
    · obtain ⟨rfl, rfl⟩ := hqf rfl
      have d0 : w2.cell? ⟨g, 0, none⟩ = some (.int .u8 96) := c0
      have d1 : w2.cell? ⟨g, P, none⟩ = some (.int .u8 96) := c1'
      have D7 : Hid (Calls Tryf.prog 7 #[.slice (some ⟨g, 1, none⟩) R (c2 - 1), .int .u8 96] w2 (Dcb.Dd U w2)) := Lib.hid C7.out
      clear c0 c1' C7
      go_wp2_with (first | (go_at_call 7; refine D7.out.mono ?_; rintro e w3 ⟨A3, n3, c3, rfl, hn3, o3, b3⟩; have RA := Lib.hid ((O1.out.keep B2.out).keep b3).rd; have RB := Lib.hid o3.rd; have HBW := Lib.hid ((B1.out.trans (B2.out.mono B1.out.size)).trans (b3.mono (Nat.le_trans B1.out.size B2.out.size))); have hn4 := hn3.trans HL.out; clear hn3 o3 b3 D7; subst hn4; clear O1 B1 B2 d0 d1) | fail)
      go_loopw [13] (fun i wr => ∃ k j : Nat, k ≤ n3 ∧ i = .int .i64 k ∧ wr = w3.drewN j) (fun i _ => n3 - (intOf i).toNat)
      case atStart => exact ⟨0, 0, Nat.zero_le _, rfl, rfl⟩
      case round =>
        obtain ⟨k, j, hk, rfl, rfl⟩ := hrel
        by_cases hlt : k < n3
        · have hkl : k < U.length := by rw [HL.out]; exact hlt
          obtain ⟨x, rfl, _, hx⟩ := RA.out.at_ (Wrp.uv_get U k hkl)
          obtain ⟨y, rfl, _, hy⟩ := RB.out.at_ (Wrp.uv_get U k hkl)
          obtain ⟨u, hu⟩ : ∃ u : Int, u = (U[k] : Int) := ⟨_, rfl⟩
          rw [← hu] at hx hy
          clear hu hkl
          have x2 : (k : Int) < (n3 : Int) := by omega
          have zz : (u != u) = false := by simp
          go_wp2_with (fail)
          go_quiet (fail)
          go_wp2_with (fail)
          go_roundw
          case rel => exact ⟨k + 1, _, by omega, by go_num, rfl⟩
          case measure => simp [intOf]; omega
        · have x2 : ¬ (k : Int) < (n3 : Int) := by omega
          go_wp2_with (fail)
          go_ret
          exact ⟨rfl, HBW.out.trans ⟨rfl, rfl, rfl, Nat.le_refl _, fun _ _ => rfl⟩⟩
  · have i1 : (524288 : Int) < (n : Int) := by omega
    go_wp2_with fail
    go_ret
    exact ⟨rfl, Below.refl _ _⟩
theorem walk (a0 : Option Addr) (len0 cap0 : Nat) (z0 : List Int) (a1 : Bool) (a2 : Bool) (a3 : Bool) (w : World) (w0 : IsRow .u16 w a0 len0 cap0 z0) :
    Calls Tryf.prog 3 #[.slice a0 len0 cap0, .bool a1, .bool a2, .bool a3] w fun e w' => e = .returned (.bool true) ∧ Below w.heap.size w w' := by
  obtain ⟨⟨U, hl, hr, hW⟩, hnil, hn⟩ := rd_of_units w0
  exact main a0 len0 cap0 U a1 a2 a3 w hl hr hW hnil hn
end Go.Proofs.YtpoakndmajoiaaaFmt.fnQuotedUTF16DecodesBack
