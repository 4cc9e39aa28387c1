/- The walk of the law FnResolveViaFallbackMatchesModel: it returns true for every input. No condition. -/
import Derived.Test.YtohhbnfbdeidbaaFmtRvb
import Derived.Test.YtohhbnfbdeidbaaFmtRvc
import Derived.Test.YtohhbnfbdeidbaaFmtCls
import Derived.Deep.RegionHeld3
namespace Go.Proofs.YtohhbnfbdeidbaaFmt.fnResolveViaFallbackMatchesModel
open Go.RowKit Go.Maps Go.Deep Go.Proofs.YtohhbnfbdeidbaaFmt.Base Go.Proofs.YtohhbnfbdeidbaaFmt.Mps Go.Proofs.YtohhbnfbdeidbaaFmt.Pnp Go.Proofs.YtohhbnfbdeidbaaFmt.Sls Go.Proofs.YtohhbnfbdeidbaaFmt.Cls Go.Proofs.YtohhbnfbdeidbaaFmt.Rva Go.Proofs.YtohhbnfbdeidbaaFmt.Rvb Go.Proofs.YtohhbnfbdeidbaaFmt.Rvc
set_option linter.unusedVariables false
/-- What came in, opened: the lists, short, as slices below the heap's end. -/
structure In (w : World) (A : Option Addr) (n c : Nat) (l : List ByteArray) : Prop where
  len : l.length = n
  rd : Rd w w.heap.size A (sv l)
  max : ∀ s ∈ l, s.size ≤ maxLen
  nil : A = none → n = 0 ∧ c = 0
  le : n ≤ maxLen
theorem in_of {w : World} {a : Option Addr} {len cap : Nat} {zs : List ByteArray} (h : IsStrs w a len cap zs) : ∃ l, In w a len cap l := by
  obtain ⟨⟨l, h1, h2, h3⟩, h4, h5⟩ := rd_of_strs h
  exact ⟨l, h1, h2, h3, h4, h5⟩
theorem In.short {w : World} {A : Option Addr} {n c : Nat} {l : List ByteArray} (h : In w A n c l) (ht : tot l ≤ 1048576) : ∀ s ∈ l, s.size ≤ 1048576 := by
  intro s hs
  obtain ⟨k, hk, rfl⟩ := List.mem_iff_getElem.1 hs
  have := tot_mem l k hk
  omega
theorem In.later {w w' : World} {A : Option Addr} {n c : Nat} {l : List ByteArray} (h : In w A n c l) (hB : Below w.heap.size w w') : In w' A n c l := ⟨h.len, h.rd.later hB, h.max, h.nil, h.le⟩
/-- A copy: of the call's own, it reads as the list. -/
structure Cp (w : World) (A : Option Addr) (n : Nat) (l : List ByteArray) : Prop where
  len : l.length = n
  rd : Rd w w.heap.size A (sv l)
  max : ∀ s ∈ l, s.size ≤ maxLen
theorem Cp.later {w w' : World} {A : Option Addr} {n : Nat} {l : List ByteArray} (h : Cp w A n l) (hB : Below w.heap.size w w') : Cp w' A n l := ⟨h.len, h.rd.later hB, h.max⟩
theorem Cp.at_ {w : World} {A : Option Addr} {n k : Nat} {l : List ByteArray} (h : Cp w A n l) (hk : k < n) : ∃ x s, A = some x ∧ x.block < w.heap.size ∧ l[k]? = some s ∧ s.size ≤ maxLen ∧ w.cell? (x.add k) = some (.string s) := by
  have hkl : k < l.length := by rw [h.len]; exact hk
  obtain ⟨x, hx, hb, hc⟩ := h.rd.at_ (sv_at l k hkl)
  exact ⟨x, l[k], hx, hb, List.getElem?_eq_getElem hkl, h.max _ (List.getElem_mem hkl), hc⟩
theorem size_of_at {l : List ByteArray} {w : World} {A : Option Addr} {n k : Nat} {s : ByteArray} (h : Cp w A n l) (hk : l[k]? = some s) : k < n := by
  have := (List.getElem?_eq_some_iff.1 hk).1
  rw [h.len] at this; exact this
def Cd (n : Nat) (l : List ByteArray) (w : World) (e : Ending) (w' : World) : Prop := ∃ A' c', e = .returned (.slice A' n c') ∧ Cp w' A' n l ∧ Below w.heap.size w w'
theorem In.clone {w : World} {A : Option Addr} {n c : Nat} {l : List ByteArray} (h : In w A n c l) (hn : n ≤ 1048576) : Calls Tryf.prog 14 #[.slice A n c] w (Cd n l w) := by
  refine (cloneS A n c l w h.len hn h.nil h.rd).mono ?_
  rintro e w' ⟨A', c', rfl, ho, hb⟩
  have hl : n = (sv l).length := by rw [sv_len, h.len]
  exact ⟨A', c', rfl, ⟨h.len, by subst hl; exact ho.rd, h.max⟩, hb⟩
set_option maxRecDepth 100000 in
set_option maxHeartbeats 8000000 in
theorem small (a0 : Bool) (A1 : Option Addr) (n1 c1 : Nat) (l1 : List ByteArray) (A2 : Option Addr) (n2 c2 : Nat) (l2 : List ByteArray) (A3 : Option Addr) (n3 c3 : Nat) (l3 : List ByteArray) (A4 : Option Addr) (n4 c4 : Nat) (l4 : List ByteArray) (A5 : Option Addr) (n5 c5 : Nat) (l5 : List ByteArray) (A6 : Option Addr) (n6 c6 : Nat) (l6 : List ByteArray) (q : ByteArray) (w : World)
    (i1 : In w A1 n1 c1 l1) (i2 : In w A2 n2 c2 l2) (i3 : In w A3 n3 c3 l3) (i4 : In w A4 n4 c4 l4) (i5 : In w A5 n5 c5 l5) (i6 : In w A6 n6 c6 l6) (hq : q.size ≤ maxLen) :
    Calls Tryf.prog 4 #[.bool a0, .slice A1 n1 c1, .slice A2 n2 c2, .slice A3 n3 c3, .slice A4 n4 c4, .slice A5 n5 c5, .slice A6 n6 c6, .string q] w fun e w' => e = .returned (.bool true) ∧ Below w.heap.size w w' := by
  have C12 := Lib.hid (bytes12 (.bool a0) A1 n1 c1 l1 A2 n2 c2 l2 A3 n3 c3 l3 A4 n4 c4 l4 A5 n5 c5 l5 A6 n6 c6 l6 q w i1.len i1.le i1.rd i1.max i2.len i2.le i2.rd i2.max i3.len i3.le i3.rd i3.max i4.len i4.le i4.rd i4.max i5.len i5.le i5.rd i5.max i6.len i6.le i6.rd i6.max hq)
  have I1 := Lib.hid i1; have I2 := Lib.hid i2; have I3 := Lib.hid i3; have I4 := Lib.hid i4; have I5 := Lib.hid i5; have I6 := Lib.hid i6
  clear i1 i2 i3 i4 i5 i6
  go_enter Tryf.func4, Tryf.ntmps4
  go_wp2_with fail
  refine C12.out.mono ?_
  rintro e w' ⟨ok, rfl, hok, rfl⟩
  clear C12
  cases ok
  · clear hok
    go_wp2_with fail
    go_ret
    exact ⟨rfl, Below.refl _ _⟩
  have hsum := hok rfl
  clear hok
  have z1 : n1 ≤ 1048576 := by omega
  have z2 : n2 ≤ 1048576 := by omega
  have z3 : n3 ≤ 1048576 := by omega
  have z4 : n4 ≤ 1048576 := by omega
  have z5 : n5 ≤ 1048576 := by omega
  have z6 : n6 ≤ 1048576 := by omega
  have zq : q.size ≤ 1048576 := by omega
  have S1 := Lib.hid (I1.out.short (by omega)); have S2 := Lib.hid (I2.out.short (by omega)); have S3 := Lib.hid (I3.out.short (by omega)); have S4 := Lib.hid (I4.out.short (by omega)); have S5 := Lib.hid (I5.out.short (by omega)); have S6 := Lib.hid (I6.out.short (by omega))
  clear hsum
  go_wp2_with fail
  refine (sum13 A1 n1 c1 l1 _ I1.out.len z1 S1.out I1.out.rd).mono ?_
  rintro e w' ⟨m1, hm1, rfl, rfl⟩
  go_wp2_with fail
  refine (sum13 A2 n2 c2 l2 _ I2.out.len z2 S2.out I2.out.rd).mono ?_
  rintro e w' ⟨m2, hm2, rfl, rfl⟩
  go_wp2_with fail
  refine (sum13 A3 n3 c3 l3 _ I3.out.len z3 S3.out I3.out.rd).mono ?_
  rintro e w' ⟨m3, hm3, rfl, rfl⟩
  go_wp2_with fail
  refine (sum13 A4 n4 c4 l4 _ I4.out.len z4 S4.out I4.out.rd).mono ?_
  rintro e w' ⟨m4, hm4, rfl, rfl⟩
  go_wp2_with fail
  refine (sum13 A5 n5 c5 l5 _ I5.out.len z5 S5.out I5.out.rd).mono ?_
  rintro e w' ⟨m5, hm5, rfl, rfl⟩
  go_wp2_with fail
  refine (sum13 A6 n6 c6 l6 _ I6.out.len z6 S6.out I6.out.rd).mono ?_
  rintro e w' ⟨m6, hm6, rfl, rfl⟩
  go_wp2_with fail
  refine (one6 q _ zq).mono ?_
  rintro e w' ⟨rfl, rfl⟩
  by_cases hbig : (1048576 : Int) < (m1 : Int) + m2 + m3 + m4 + m5 + m6 + q.size
  · go_wp2_with fail
    go_ret
    exact ⟨rfl, Below.refl _ _⟩
  clear S1 S2 S3 S4 S5 S6
  go_wp2_with fail
  clear hbig hm1 hm2 hm3 hm4 hm5 hm6
  refine (I1.out.clone z1).mono ?_
  rintro e w1 ⟨B1, d1, rfl, cp1, b1⟩
  have J2 := Lib.hid (I2.out.later b1)
  clear I2
  have I2 := Lib.hid J2.out
  clear J2
  have J3 := Lib.hid (I3.out.later b1)
  clear I3
  have I3 := Lib.hid J3.out
  clear J3
  have J4 := Lib.hid (I4.out.later b1)
  clear I4
  have I4 := Lib.hid J4.out
  clear J4
  have J5 := Lib.hid (I5.out.later b1)
  clear I5
  have I5 := Lib.hid J5.out
  clear J5
  have J6 := Lib.hid (I6.out.later b1)
  clear I6
  have I6 := Lib.hid J6.out
  clear J6
  have K1 := Lib.hid cp1
  have HB1 := Lib.hid b1
  clear cp1 b1 I1
  go_wp2_with fail
  refine (I2.out.clone z2).mono ?_
  rintro e w2 ⟨B2, d2, rfl, cp2, b2⟩
  have J3 := Lib.hid (I3.out.later b2)
  clear I3
  have I3 := Lib.hid J3.out
  clear J3
  have J4 := Lib.hid (I4.out.later b2)
  clear I4
  have I4 := Lib.hid J4.out
  clear J4
  have J5 := Lib.hid (I5.out.later b2)
  clear I5
  have I5 := Lib.hid J5.out
  clear J5
  have J6 := Lib.hid (I6.out.later b2)
  clear I6
  have I6 := Lib.hid J6.out
  clear J6
  have J1 := Lib.hid (K1.out.later b2)
  clear K1
  have K1 := Lib.hid J1.out
  clear J1
  have K2 := Lib.hid cp2
  have HB2 := Lib.hid (below_join HB1.out HB1.out.size b2)
  clear HB1
  clear cp2 b2 I2
  go_wp2_with fail
  refine (I3.out.clone z3).mono ?_
  rintro e w3 ⟨B3, d3, rfl, cp3, b3⟩
  have J4 := Lib.hid (I4.out.later b3)
  clear I4
  have I4 := Lib.hid J4.out
  clear J4
  have J5 := Lib.hid (I5.out.later b3)
  clear I5
  have I5 := Lib.hid J5.out
  clear J5
  have J6 := Lib.hid (I6.out.later b3)
  clear I6
  have I6 := Lib.hid J6.out
  clear J6
  have J1 := Lib.hid (K1.out.later b3)
  clear K1
  have K1 := Lib.hid J1.out
  clear J1
  have J2 := Lib.hid (K2.out.later b3)
  clear K2
  have K2 := Lib.hid J2.out
  clear J2
  have K3 := Lib.hid cp3
  have HB3 := Lib.hid (below_join HB2.out HB2.out.size b3)
  clear HB2
  clear cp3 b3 I3
  go_wp2_with fail
  refine (I4.out.clone z4).mono ?_
  rintro e w4 ⟨B4, d4, rfl, cp4, b4⟩
  have J5 := Lib.hid (I5.out.later b4)
  clear I5
  have I5 := Lib.hid J5.out
  clear J5
  have J6 := Lib.hid (I6.out.later b4)
  clear I6
  have I6 := Lib.hid J6.out
  clear J6
  have J1 := Lib.hid (K1.out.later b4)
  clear K1
  have K1 := Lib.hid J1.out
  clear J1
  have J2 := Lib.hid (K2.out.later b4)
  clear K2
  have K2 := Lib.hid J2.out
  clear J2
  have J3 := Lib.hid (K3.out.later b4)
  clear K3
  have K3 := Lib.hid J3.out
  clear J3
  have K4 := Lib.hid cp4
  have HB4 := Lib.hid (below_join HB3.out HB3.out.size b4)
  clear HB3
  clear cp4 b4 I4
  go_wp2_with fail
  refine (I5.out.clone z5).mono ?_
  rintro e w5 ⟨B5, d5, rfl, cp5, b5⟩
  have J6 := Lib.hid (I6.out.later b5)
  clear I6
  have I6 := Lib.hid J6.out
  clear J6
  have J1 := Lib.hid (K1.out.later b5)
  clear K1
  have K1 := Lib.hid J1.out
  clear J1
  have J2 := Lib.hid (K2.out.later b5)
  clear K2
  have K2 := Lib.hid J2.out
  clear J2
  have J3 := Lib.hid (K3.out.later b5)
  clear K3
  have K3 := Lib.hid J3.out
  clear J3
  have J4 := Lib.hid (K4.out.later b5)
  clear K4
  have K4 := Lib.hid J4.out
  clear J4
  have K5 := Lib.hid cp5
  have HB5 := Lib.hid (below_join HB4.out HB4.out.size b5)
  clear HB4
  clear cp5 b5 I5
  go_wp2_with fail
  refine (I6.out.clone z6).mono ?_
  rintro e w6 ⟨B6, d6, rfl, cp6, b6⟩
  have J1 := Lib.hid (K1.out.later b6)
  clear K1
  have K1 := Lib.hid J1.out
  clear J1
  have J2 := Lib.hid (K2.out.later b6)
  clear K2
  have K2 := Lib.hid J2.out
  clear J2
  have J3 := Lib.hid (K3.out.later b6)
  clear K3
  have K3 := Lib.hid J3.out
  clear J3
  have J4 := Lib.hid (K4.out.later b6)
  clear K4
  have K4 := Lib.hid J4.out
  clear J4
  have J5 := Lib.hid (K5.out.later b6)
  clear K5
  have K5 := Lib.hid J5.out
  clear J5
  have K6 := Lib.hid cp6
  have HB6 := Lib.hid (below_join HB5.out HB5.out.size b6)
  clear HB5
  clear cp6 b6 I6
  go_wp2_with fail
  refine (min15 n1 n2 n3 _ z1 z2 z3).mono ?_
  rintro e w' ⟨rfl, rfl⟩
  obtain ⟨na, hna⟩ : ∃ m, m = min (min n1 n2) n3 := ⟨_, rfl⟩
  have a1 : na ≤ n1 := by omega
  have a2 : na ≤ n2 := by omega
  have a3 : na ≤ n3 := by omega
  rw [← hna]
  clear hna
  go_wp2_with fail
  refine (min15 n4 n5 n6 _ z4 z5 z6).mono ?_
  rintro e w' ⟨rfl, rfl⟩
  obtain ⟨nb, hnb⟩ : ∃ m, m = min (min n4 n5) n6 := ⟨_, rfl⟩
  have a4 : nb ≤ n4 := by omega
  have a5 : nb ≤ n5 := by omega
  have a6 : nb ≤ n6 := by omega
  rw [← hnb]
  clear hnb
  go_wp2_with fail
  refine (new7 _).mono ?_
  rintro e w7 ⟨rfl, hman7, hreg7, hpool7, hb7, hs7⟩
  have HM7 := Lib.hid hman7; have HR7 := Lib.hid hreg7; have HP7 := Lib.hid hpool7; have HB7 := Lib.hid hb7; have HS7 := Lib.hid hs7
  clear hman7 hreg7 hpool7 hb7 hs7
  have he0 : e0.size ≤ maxLen := by unfold maxLen; decide
  have HE0 := Lib.hid he0
  clear he0
  cases a0
  · go_wp2_with fail
    refine (ident8 _ _ _ 0 _ e0 _ HM7.out HR7.out (by omega) HE0.out).mono ?_
    rintro e w8 ⟨rfl, hman8, hreg8, hinn8, hg8⟩
    have HM8 := Lib.hid hman8; have HR8 := Lib.hid hreg8; have HI8 := Lib.hid hinn8; have HG8 := Lib.hid hg8
    have HP8 := Lib.hid (HP7.out.kept hg8 (by simp))
    clear hman8 hreg8 hinn8 hg8 HM7 HR7 HP7
    have htr : (⟨#[48]⟩ : ByteArray).size ≤ maxLen := by unfold maxLen; decide
    have HTR := Lib.hid htr
    clear htr
    go_wp2_with fail
    refine (put9 _ _ _ w7.heap.size 1 0 _ _ e0 ⟨#[48]⟩ ⟨#[46, 47]⟩ _ HM8.out HR8.out (by simp [upd]) HI8.out (by omega) HE0.out HTR.out).mono ?_
    rintro e w9 ⟨rfl, hman9, hinn9, hdep9, hg9⟩
    have z7 : w7.heap.size = w6.heap.size + 3 := HS7.out
    have z8 : w7.heap.size < w8.heap.size := HI8.out.lt
    have z9 := hg9.size
    have hT0 : Two w9 w6.heap.size (w6.heap.size + 2) w6.heap.size (w6.heap.size + 1) w7.heap.size w8.heap.size ⟨#[48]⟩ ⟨#[46, 47]⟩ 0 0 (put l1 l2 l3 0) (put l4 l5 l6 0) :=
      ⟨hman9, HR8.out.kept hg9 (by simp; omega), hinn9, hdep9, HP8.out.kept hg9 (by simp; omega), Nat.le_refl _, by omega, by omega, by omega, z8⟩
    have hB9 : Below w6.heap.size w6 w9 := (HB7.out.trans (grown_below HG8.out (by omega) (Nat.le_refl _))).trans (grown_below hg9 (by omega) (by omega))
    have HT0 := Lib.hid hT0; have HB9 := Lib.hid hB9
    clear z7 z8 z9 hman9 hinn9 hdep9 hg9 hT0 hB9 HM8 HR8 HI8 HG8 HP8 HB7 HS7
    go_wp2_with fail
    go_loopw [21] (fun i wr => ∃ k : Nat, k ≤ na ∧ i = .int .i64 k ∧ Two wr w6.heap.size (w6.heap.size + 2) w6.heap.size (w6.heap.size + 1) w7.heap.size w8.heap.size ⟨#[48]⟩ ⟨#[46, 47]⟩ k 0 (put l1 l2 l3 k) (put l4 l5 l6 0) ∧ Below w6.heap.size w6 wr) (fun i _ => na - (intOf i).toNat)
    case atStart => exact ⟨0, by omega, rfl, HT0.out, HB9.out⟩
    case round =>
      obtain ⟨k, hk, rfl, hT, hbel⟩ := hrel
      by_cases hlt : k < na
      · obtain ⟨x, s1, rfl, hxb, at1, hz1, cx0⟩ := K1.out.at_ (show k < n1 by omega)
        obtain ⟨y, s2, rfl, hyb, at2, hz2, cy0⟩ := K2.out.at_ (show k < n2 by omega)
        obtain ⟨z, s3, rfl, hzb, at3, hz3, cz0⟩ := K3.out.at_ (show k < n3 by omega)
        have cx := (hbel.cell (p := x.add k) (by rw [add_block]; exact hxb)).trans cx0
        have cy := (hbel.cell (p := y.add k) (by rw [add_block]; exact hyb)).trans cy0
        have cz := (hbel.cell (p := z.add k) (by rw [add_block]; exact hzb)).trans cz0
        have x0 : (0 : Int) ≤ (k : Int) := by omega
        have x1 : (k : Int) < (n1 : Int) := by omega
        have x2 : (k : Int) < (n2 : Int) := by omega
        have x3 : (k : Int) < (n3 : Int) := by omega
        have hw6 := hbel.size
        have ST := Lib.hid (put_step l1 l2 l3 k s1 s2 s3 at1 at2 at3)
        have PC := Lib.hid ((hT.drewN 1).putDep s1 s2 s3 (by omega) HTR.out hz1 hw6)
        have HBL := Lib.hid (below_draws hbel 1)
        have HXB := Lib.hid hxb; have HYB := Lib.hid hyb; have HZB := Lib.hid hzb
        clear hT cx0 cy0 cz0 hbel at1 at2 at3 hz1 hz2 hz3 hw6 hxb hyb hzb
        go_wp2
        go_region_held3 (fun w' => w'.cell? (x.add k) = some (.string s1) ∧ w'.cell? (y.add k) = some (.string s2) ∧ w'.cell? (z.add k) = some (.string s3)) (go_keep)
          ((go_at_call 16; refine PC.out.mono ?_; rintro e w10 ⟨rfl, hT10, hb10⟩; have cx1 := (hb10.cell (p := x.add k) (by rw [add_block]; exact HXB.out)).trans cx; have cy1 := (hb10.cell (p := y.add k) (by rw [add_block]; exact HYB.out)).trans cy; have cz1 := (hb10.cell (p := z.add k) (by rw [add_block]; exact HZB.out)).trans cz; have HT10 := Lib.hid hT10; have HB10 := Lib.hid hb10; clear hT10 hb10))
        clear cx cy cz
        have HT11 := Lib.hid HT10.out
        rw [ST.out] at HT11
        have HB11 := Lib.hid (HBL.out.trans HB10.out)
        clear HT10 HB10 HBL PC ST
        go_wp2
        go_roundw
        case rel => exact ⟨k + 1, by omega, by go_num, HT11.out, HB11.out⟩
        case measure => simp [intOf]; omega
      · obtain rfl : k = na := by omega
        obtain ⟨wo, rfl⟩ : ∃ wo : World, wo = wr := ⟨_, rfl⟩
        have HTo := Lib.hid hT; have HBo := Lib.hid hbel
        clear hT hbel HT0 HB9
        go_wp2
        go_loopw [22] (fun i wr => ∃ j : Nat, j ≤ nb ∧ i = .int .i64 j ∧ Two wr w6.heap.size (w6.heap.size + 2) w6.heap.size (w6.heap.size + 1) w7.heap.size w8.heap.size ⟨#[48]⟩ ⟨#[46, 47]⟩ k j (put l1 l2 l3 k) (put l4 l5 l6 j) ∧ Below w6.heap.size w6 wr) (fun i _ => nb - (intOf i).toNat)
        case atStart => exact ⟨0, by omega, rfl, HTo.out, HBo.out⟩
        case round =>
          obtain ⟨j, hj, rfl, hT, hbel⟩ := hrel
          by_cases hltj : j < nb
          · obtain ⟨x, s1, rfl, hxb, at1, hz1, cx0⟩ := K4.out.at_ (show j < n4 by omega)
            obtain ⟨y, s2, rfl, hyb, at2, hz2, cy0⟩ := K5.out.at_ (show j < n5 by omega)
            obtain ⟨z, s3, rfl, hzb, at3, hz3, cz0⟩ := K6.out.at_ (show j < n6 by omega)
            have cx := (hbel.cell (p := x.add j) (by rw [add_block]; exact hxb)).trans cx0
            have cy := (hbel.cell (p := y.add j) (by rw [add_block]; exact hyb)).trans cy0
            have cz := (hbel.cell (p := z.add j) (by rw [add_block]; exact hzb)).trans cz0
            have x0 : (0 : Int) ≤ (j : Int) := by omega
            have x1 : (j : Int) < (n4 : Int) := by omega
            have x2 : (j : Int) < (n5 : Int) := by omega
            have x3 : (j : Int) < (n6 : Int) := by omega
            have hw6 := hbel.size
            have ST := Lib.hid (put_step l4 l5 l6 j s1 s2 s3 at1 at2 at3)
            have PC := Lib.hid ((hT.drewN 1).putPool s1 s2 s3 (by omega) hz1 hw6)
            have HBL := Lib.hid (below_draws hbel 1)
            have HXB := Lib.hid hxb; have HYB := Lib.hid hyb; have HZB := Lib.hid hzb
            clear hT cx0 cy0 cz0 hbel at1 at2 at3 hz1 hz2 hz3 hw6 hxb hyb hzb
            go_wp2
            go_region_held3 (fun w' => w'.cell? (x.add j) = some (.string s1) ∧ w'.cell? (y.add j) = some (.string s2) ∧ w'.cell? (z.add j) = some (.string s3)) (go_keep)
              ((go_at_call 17; refine PC.out.mono ?_; rintro e w10 ⟨rfl, hT10, hb10⟩; have cx1 := (hb10.cell (p := x.add j) (by rw [add_block]; exact HXB.out)).trans cx; have cy1 := (hb10.cell (p := y.add j) (by rw [add_block]; exact HYB.out)).trans cy; have cz1 := (hb10.cell (p := z.add j) (by rw [add_block]; exact HZB.out)).trans cz; have HT10 := Lib.hid hT10; have HB10 := Lib.hid hb10; clear hT10 hb10))
            clear cx cy cz
            have HT11 := Lib.hid HT10.out
            rw [ST.out] at HT11
            have HB11 := Lib.hid (HBL.out.trans HB10.out)
            clear HT10 HB10 HBL PC ST
            go_wp2
            go_roundw
            case rel => exact ⟨j + 1, by omega, by go_num, HT11.out, HB11.out⟩
            case measure => simp [intOf]; omega
          · obtain rfl : j = nb := by omega
            obtain ⟨wq, rfl⟩ : ∃ wq : World, wq = wr := ⟨_, rfl⟩
            have HT := Lib.hid hT; have HB := Lib.hid hbel
            clear hT hbel HTo HBo
            have NT := Lib.hid (HT.out.noTop q (by unfold e0; decide))
            unfold e0 at NT
            have GB := Lib.hid (HB6.out.trans (HB.out.mono HB6.out.size))
            go_wp2_with fail
            refine NT.out.mono ?_
            rintro e w12 ⟨rfl, hb12⟩
            have HB12 := Lib.hid (GB.out.trans (hb12.mono GB.out.size))
            clear NT GB hb12
            go_wp2
            go_ret
            exact ⟨rfl, HB12.out⟩
  · go_wp2_with fail
    refine (ident8 _ _ _ 0 _ e0 _ HM7.out HR7.out (by omega) HE0.out).mono ?_
    rintro e w8 ⟨rfl, hman8, hreg8, hinn8, hg8⟩
    have HM8 := Lib.hid hman8; have HR8 := Lib.hid hreg8; have HI8 := Lib.hid hinn8; have HG8 := Lib.hid hg8
    have HP8 := Lib.hid (HP7.out.kept hg8 (by simp))
    clear hman8 hreg8 hinn8 hg8 HM7 HR7 HP7
    have htr : (e0 : ByteArray).size ≤ maxLen := by unfold maxLen; decide
    have HTR := Lib.hid htr
    clear htr
    go_wp2_with fail
    refine (put9 _ _ _ w7.heap.size 1 0 _ _ e0 e0 ⟨#[46, 47]⟩ _ HM8.out HR8.out (by simp [upd]) HI8.out (by omega) HE0.out HTR.out).mono ?_
    rintro e w9 ⟨rfl, hman9, hinn9, hdep9, hg9⟩
    have z7 : w7.heap.size = w6.heap.size + 3 := HS7.out
    have z8 : w7.heap.size < w8.heap.size := HI8.out.lt
    have z9 := hg9.size
    have hT0 : Two w9 w6.heap.size (w6.heap.size + 2) w6.heap.size (w6.heap.size + 1) w7.heap.size w8.heap.size e0 ⟨#[46, 47]⟩ 0 0 (put l1 l2 l3 0) (put l4 l5 l6 0) :=
      ⟨hman9, HR8.out.kept hg9 (by simp; omega), hinn9, hdep9, HP8.out.kept hg9 (by simp; omega), Nat.le_refl _, by omega, by omega, by omega, z8⟩
    have hB9 : Below w6.heap.size w6 w9 := (HB7.out.trans (grown_below HG8.out (by omega) (Nat.le_refl _))).trans (grown_below hg9 (by omega) (by omega))
    have HT0 := Lib.hid hT0; have HB9 := Lib.hid hB9
    clear z7 z8 z9 hman9 hinn9 hdep9 hg9 hT0 hB9 HM8 HR8 HI8 HG8 HP8 HB7 HS7
    go_wp2_with fail
    go_loopw [21] (fun i wr => ∃ k : Nat, k ≤ na ∧ i = .int .i64 k ∧ Two wr w6.heap.size (w6.heap.size + 2) w6.heap.size (w6.heap.size + 1) w7.heap.size w8.heap.size e0 ⟨#[46, 47]⟩ k 0 (put l1 l2 l3 k) (put l4 l5 l6 0) ∧ Below w6.heap.size w6 wr) (fun i _ => na - (intOf i).toNat)
    case atStart => exact ⟨0, by omega, rfl, HT0.out, HB9.out⟩
    case round =>
      obtain ⟨k, hk, rfl, hT, hbel⟩ := hrel
      by_cases hlt : k < na
      · obtain ⟨x, s1, rfl, hxb, at1, hz1, cx0⟩ := K1.out.at_ (show k < n1 by omega)
        obtain ⟨y, s2, rfl, hyb, at2, hz2, cy0⟩ := K2.out.at_ (show k < n2 by omega)
        obtain ⟨z, s3, rfl, hzb, at3, hz3, cz0⟩ := K3.out.at_ (show k < n3 by omega)
        have cx := (hbel.cell (p := x.add k) (by rw [add_block]; exact hxb)).trans cx0
        have cy := (hbel.cell (p := y.add k) (by rw [add_block]; exact hyb)).trans cy0
        have cz := (hbel.cell (p := z.add k) (by rw [add_block]; exact hzb)).trans cz0
        have x0 : (0 : Int) ≤ (k : Int) := by omega
        have x1 : (k : Int) < (n1 : Int) := by omega
        have x2 : (k : Int) < (n2 : Int) := by omega
        have x3 : (k : Int) < (n3 : Int) := by omega
        have hw6 := hbel.size
        have ST := Lib.hid (put_step l1 l2 l3 k s1 s2 s3 at1 at2 at3)
        have PC := Lib.hid ((hT.drewN 1).putDep s1 s2 s3 (by omega) HTR.out hz1 hw6)
        have HBL := Lib.hid (below_draws hbel 1)
        have HXB := Lib.hid hxb; have HYB := Lib.hid hyb; have HZB := Lib.hid hzb
        clear hT cx0 cy0 cz0 hbel at1 at2 at3 hz1 hz2 hz3 hw6 hxb hyb hzb
        go_wp2
        go_region_held3 (fun w' => w'.cell? (x.add k) = some (.string s1) ∧ w'.cell? (y.add k) = some (.string s2) ∧ w'.cell? (z.add k) = some (.string s3)) (go_keep)
          ((go_at_call 16; refine PC.out.mono ?_; rintro e w10 ⟨rfl, hT10, hb10⟩; have cx1 := (hb10.cell (p := x.add k) (by rw [add_block]; exact HXB.out)).trans cx; have cy1 := (hb10.cell (p := y.add k) (by rw [add_block]; exact HYB.out)).trans cy; have cz1 := (hb10.cell (p := z.add k) (by rw [add_block]; exact HZB.out)).trans cz; have HT10 := Lib.hid hT10; have HB10 := Lib.hid hb10; clear hT10 hb10))
        clear cx cy cz
        have HT11 := Lib.hid HT10.out
        rw [ST.out] at HT11
        have HB11 := Lib.hid (HBL.out.trans HB10.out)
        clear HT10 HB10 HBL PC ST
        go_wp2
        go_roundw
        case rel => exact ⟨k + 1, by omega, by go_num, HT11.out, HB11.out⟩
        case measure => simp [intOf]; omega
      · obtain rfl : k = na := by omega
        obtain ⟨wo, rfl⟩ : ∃ wo : World, wo = wr := ⟨_, rfl⟩
        have HTo := Lib.hid hT; have HBo := Lib.hid hbel
        clear hT hbel HT0 HB9
        go_wp2
        go_loopw [22] (fun i wr => ∃ j : Nat, j ≤ nb ∧ i = .int .i64 j ∧ Two wr w6.heap.size (w6.heap.size + 2) w6.heap.size (w6.heap.size + 1) w7.heap.size w8.heap.size e0 ⟨#[46, 47]⟩ k j (put l1 l2 l3 k) (put l4 l5 l6 j) ∧ Below w6.heap.size w6 wr) (fun i _ => nb - (intOf i).toNat)
        case atStart => exact ⟨0, by omega, rfl, HTo.out, HBo.out⟩
        case round =>
          obtain ⟨j, hj, rfl, hT, hbel⟩ := hrel
          by_cases hltj : j < nb
          · obtain ⟨x, s1, rfl, hxb, at1, hz1, cx0⟩ := K4.out.at_ (show j < n4 by omega)
            obtain ⟨y, s2, rfl, hyb, at2, hz2, cy0⟩ := K5.out.at_ (show j < n5 by omega)
            obtain ⟨z, s3, rfl, hzb, at3, hz3, cz0⟩ := K6.out.at_ (show j < n6 by omega)
            have cx := (hbel.cell (p := x.add j) (by rw [add_block]; exact hxb)).trans cx0
            have cy := (hbel.cell (p := y.add j) (by rw [add_block]; exact hyb)).trans cy0
            have cz := (hbel.cell (p := z.add j) (by rw [add_block]; exact hzb)).trans cz0
            have x0 : (0 : Int) ≤ (j : Int) := by omega
            have x1 : (j : Int) < (n4 : Int) := by omega
            have x2 : (j : Int) < (n5 : Int) := by omega
            have x3 : (j : Int) < (n6 : Int) := by omega
            have hw6 := hbel.size
            have ST := Lib.hid (put_step l4 l5 l6 j s1 s2 s3 at1 at2 at3)
            have PC := Lib.hid ((hT.drewN 1).putPool s1 s2 s3 (by omega) hz1 hw6)
            have HBL := Lib.hid (below_draws hbel 1)
            have HXB := Lib.hid hxb; have HYB := Lib.hid hyb; have HZB := Lib.hid hzb
            clear hT cx0 cy0 cz0 hbel at1 at2 at3 hz1 hz2 hz3 hw6 hxb hyb hzb
            go_wp2
            go_region_held3 (fun w' => w'.cell? (x.add j) = some (.string s1) ∧ w'.cell? (y.add j) = some (.string s2) ∧ w'.cell? (z.add j) = some (.string s3)) (go_keep)
              ((go_at_call 17; refine PC.out.mono ?_; rintro e w10 ⟨rfl, hT10, hb10⟩; have cx1 := (hb10.cell (p := x.add j) (by rw [add_block]; exact HXB.out)).trans cx; have cy1 := (hb10.cell (p := y.add j) (by rw [add_block]; exact HYB.out)).trans cy; have cz1 := (hb10.cell (p := z.add j) (by rw [add_block]; exact HZB.out)).trans cz; have HT10 := Lib.hid hT10; have HB10 := Lib.hid hb10; clear hT10 hb10))
            clear cx cy cz
            have HT11 := Lib.hid HT10.out
            rw [ST.out] at HT11
            have HB11 := Lib.hid (HBL.out.trans HB10.out)
            clear HT10 HB10 HBL PC ST
            go_wp2
            go_roundw
            case rel => exact ⟨j + 1, by omega, by go_num, HT11.out, HB11.out⟩
            case measure => simp [intOf]; omega
          · obtain rfl : j = nb := by omega
            obtain ⟨wq, rfl⟩ : ∃ wq : World, wq = wr := ⟨_, rfl⟩
            have HT := Lib.hid hT; have HB := Lib.hid hbel
            clear hT hbel HTo HBo
            have GB := Lib.hid (HB6.out.trans (HB.out.mono HB6.out.size))
            go_wp2
            go_loop [23, 24, 25, 26] (fun a b c i => a = .string { data := #[] } ∧ b = .string { data := #[] } ∧ c = .bool false ∧ ∃ m : Nat, m ≤ k ∧ i = .int .i64 ((m : Int) - 1) ∧ Hid (lastAt l1 q k = lastAt l1 q m)) (fun _ _ _ i => (intOf i + 1).toNat)
            case atStart => exact ⟨rfl, rfl, rfl, k, Nat.le_refl _, rfl, Lib.hid rfl⟩
            case round =>
              obtain ⟨rfl, rfl, rfl, m, hm, rfl, hlast⟩ := hrel
              rcases m with _ | m
              · have HD := Lib.hid (put_miss l1 l2 l3 k q (by rw [hlast.out]; rfl))
                clear hlast
                go_wp2
                go_loop [23, 24, 25, 27] (fun a b c i => a = .string { data := #[] } ∧ b = .string { data := #[] } ∧ c = .bool false ∧ ∃ m : Nat, m ≤ j ∧ i = .int .i64 ((m : Int) - 1) ∧ Hid (lastAt l4 q j = lastAt l4 q m)) (fun _ _ _ i => (intOf i + 1).toNat)
                case atStart => exact ⟨rfl, rfl, rfl, j, Nat.le_refl _, rfl, Lib.hid rfl⟩
                case round =>
                  obtain ⟨rfl, rfl, rfl, m, hm, rfl, hlast⟩ := hrel
                  rcases m with _ | m
                  · have HP := Lib.hid (put_miss l4 l5 l6 j q (by rw [hlast.out]; rfl))
                    have NT := Lib.hid (HT.out.noOne q HD.out HP.out (by unfold maxLen; omega))
                    unfold e0 at NT
                    clear HP HD
                    go_wp2_with fail
                    refine NT.out.mono ?_
                    rintro e w12 ⟨rfl, hb12⟩
                    have HB12 := Lib.hid (GB.out.trans (hb12.mono GB.out.size))
                    clear NT GB hb12
                    go_wp2
                    go_ret
                    exact ⟨rfl, HB12.out⟩
                  · rw [show (((m + 1 : Nat) : Int) - 1) = (m : Int) by omega]
                    have hmj : m < j := by omega
                    obtain ⟨x, s1, rfl, hxb, at1, hz1, cx0⟩ := K4.out.at_ (show m < n4 by omega)
                    obtain ⟨y, s2, rfl, hyb, at2, hz2, cy0⟩ := K5.out.at_ (show m < n5 by omega)
                    obtain ⟨z, s3, rfl, hzb, at3, hz3, cz0⟩ := K6.out.at_ (show m < n6 by omega)
                    have cx := (HB.out.cell (p := x.add m) (by rw [add_block]; exact hxb)).trans cx0
                    have cy := (HB.out.cell (p := y.add m) (by rw [add_block]; exact hyb)).trans cy0
                    have cz := (HB.out.cell (p := z.add m) (by rw [add_block]; exact hzb)).trans cz0
                    have x0 : (0 : Int) ≤ (m : Int) := by omega
                    have x1 : (m : Int) < (n4 : Int) := by omega
                    have x2 : (m : Int) < (n5 : Int) := by omega
                    have x3 : (m : Int) < (n6 : Int) := by omega
                    by_cases heq : s1 = q
                    · subst heq
                      have NT := Lib.hid (HT.out.hitPool s1 s2 s3 HD.out (put_hit l4 l5 l6 j m s1 s2 s3 (by rw [hlast.out, lastAt_hit at1]) at2 at3) (by unfold maxLen; omega))
                      clear cx0 cy0 cz0 at1 at2 at3 hz1 hz2 hz3 hxb hyb hzb hlast HD
                      go_wp2_with fail
                      refine NT.out.mono ?_
                      rintro e w12 ⟨rfl, hb12⟩
                      have HB12 := Lib.hid (GB.out.trans (hb12.mono GB.out.size))
                      clear NT GB hb12
                      go_wp2
                      go_ret
                      exact ⟨rfl, HB12.out⟩
                    · have hb1 : (s1.toList == q.toList) = false := by rw [eq_toList]; exact decide_eq_false heq
                      have NL := Lib.hid (hlast.out.trans (lastAt_pass at1 heq))
                      clear cx0 cy0 cz0 at1 at2 at3 hz1 hz2 hz3 hxb hyb hzb hlast heq cy cz
                      go_wp2
                      go_round
                      case rel => exact ⟨rfl, rfl, rfl, m, by omega, by go_num, NL.out⟩
                      case measure => simp [intOf]
              · rw [show (((m + 1 : Nat) : Int) - 1) = (m : Int) by omega]
                have hmk : m < k := by omega
                obtain ⟨x, s1, rfl, hxb, at1, hz1, cx0⟩ := K1.out.at_ (show m < n1 by omega)
                obtain ⟨y, s2, rfl, hyb, at2, hz2, cy0⟩ := K2.out.at_ (show m < n2 by omega)
                obtain ⟨z, s3, rfl, hzb, at3, hz3, cz0⟩ := K3.out.at_ (show m < n3 by omega)
                have cx := (HB.out.cell (p := x.add m) (by rw [add_block]; exact hxb)).trans cx0
                have cy := (HB.out.cell (p := y.add m) (by rw [add_block]; exact hyb)).trans cy0
                have cz := (HB.out.cell (p := z.add m) (by rw [add_block]; exact hzb)).trans cz0
                have x0 : (0 : Int) ≤ (m : Int) := by omega
                have x1 : (m : Int) < (n1 : Int) := by omega
                have x2 : (m : Int) < (n2 : Int) := by omega
                have x3 : (m : Int) < (n3 : Int) := by omega
                by_cases heq : s1 = q
                · subst heq
                  have NT := Lib.hid (HT.out.hitDep s1 s2 s3 (put_hit l1 l2 l3 k m s1 s2 s3 (by rw [hlast.out, lastAt_hit at1]) at2 at3) (by unfold maxLen; omega))
                  clear cx0 cy0 cz0 at1 at2 at3 hz1 hz2 hz3 hxb hyb hzb hlast
                  go_wp2_with fail
                  refine NT.out.mono ?_
                  rintro e w12 ⟨rfl, hb12⟩
                  have HB12 := Lib.hid (GB.out.trans (hb12.mono GB.out.size))
                  clear NT GB hb12
                  go_wp2
                  go_ret
                  exact ⟨rfl, HB12.out⟩
                · have hb1 : (s1.toList == q.toList) = false := by rw [eq_toList]; exact decide_eq_false heq
                  have NL := Lib.hid (hlast.out.trans (lastAt_pass at1 heq))
                  clear cx0 cy0 cz0 at1 at2 at3 hz1 hz2 hz3 hxb hyb hzb hlast heq cy cz
                  go_wp2
                  go_round
                  case rel => exact ⟨rfl, rfl, rfl, m, by omega, by go_num, NL.out⟩
                  case measure => simp [intOf]
theorem walk (a0 : Bool) (a1 : Option Addr) (len1 cap1 : Nat) (z1 : List ByteArray) (a2 : Option Addr) (len2 cap2 : Nat) (z2 : List ByteArray) (a3 : Option Addr) (len3 cap3 : Nat) (z3 : List ByteArray) (a4 : Option Addr) (len4 cap4 : Nat) (z4 : List ByteArray) (a5 : Option Addr) (len5 cap5 : Nat) (z5 : List ByteArray) (a6 : Option Addr) (len6 cap6 : Nat) (z6 : List ByteArray) (a7 : ByteArray) (w : World) (w1 : IsStrs w a1 len1 cap1 z1) (w2 : IsStrs w a2 len2 cap2 z2) (w3 : IsStrs w a3 len3 cap3 z3) (w4 : IsStrs w a4 len4 cap4 z4) (w5 : IsStrs w a5 len5 cap5 z5) (w6 : IsStrs w a6 len6 cap6 z6) (w7 : a7.size ≤ maxLen) :
    Calls Tryf.prog 4 #[.bool a0, .slice a1 len1 cap1, .slice a2 len2 cap2, .slice a3 len3 cap3, .slice a4 len4 cap4, .slice a5 len5 cap5, .slice a6 len6 cap6, .string a7] w fun e w' => e = .returned (.bool true) ∧ Below w.heap.size w w' := by
  obtain ⟨l1, i1⟩ := in_of w1
  obtain ⟨l2, i2⟩ := in_of w2
  obtain ⟨l3, i3⟩ := in_of w3
  obtain ⟨l4, i4⟩ := in_of w4
  obtain ⟨l5, i5⟩ := in_of w5
  obtain ⟨l6, i6⟩ := in_of w6
  exact small a0 a1 len1 cap1 l1 a2 len2 cap2 l2 a3 len3 cap3 l3 a4 len4 cap4 l4 a5 len5 cap5 l5 a6 len6 cap6 l6 a7 w i1 i2 i3 i4 i5 i6 w7
end Go.Proofs.YtohhbnfbdeidbaaFmt.fnResolveViaFallbackMatchesModel
