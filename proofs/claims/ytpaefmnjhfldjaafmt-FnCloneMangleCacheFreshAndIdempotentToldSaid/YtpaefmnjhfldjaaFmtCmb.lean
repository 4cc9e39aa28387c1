/- A cache built out of three lists, and its clone, by their contracts. Conditions: lengths of at most 2^20. -/
import Derived.Test.YtpaefmnjhfldjaaFmtCma
import Derived.Deep.DeepCutAuto
namespace Go.Proofs.YtpaefmnjhfldjaaFmt.Cmb
open Go.RowKit Go.Maps Go.Deep Go.ChangeMaps Go.MapKept Go.Proofs.YtpaefmnjhfldjaaFmt.Base Go.Proofs.YtpaefmnjhfldjaaFmt.Sls Go.Proofs.YtpaefmnjhfldjaaFmt.Cls Go.Proofs.YtpaefmnjhfldjaaFmt.Mps Go.Proofs.YtpaefmnjhfldjaaFmt.Mpd Go.Proofs.YtpaefmnjhfldjaaFmt.Cma
set_option linter.unusedVariables false
theorem proto_list : proto.toList = [95, 95, 112, 114, 111, 116, 111, 95, 95] := by rw [Lib.toList_data]; rfl
theorem good_put {D : DataW Value} (hG : Mpd.Good D) (hm : IsMap D) (s : ByteArray) (o : Option ByteArray) (hne : ∀ x, o = some x → x ≠ proto) : Mpd.Good (D.put (kl s) (.held (shp o))) := by
  intro k hk
  by_cases h : k = kl s
  · subst h
    exact ⟨o, hne, fun z => atKey_put_same hm (kl_key s) _ z⟩
  · rw [has_put_other h _] at hk
    obtain ⟨o', h1, h2⟩ := hG k hk
    exact ⟨o', h1, fun z => (atKey_put_other h _ z).trans (h2 z)⟩
theorem has_put {D : DataW Value} (hm : IsMap D) (s : ByteArray) (v : Value) (key : Lit) : Maps.has (D.put (kl s) (.held v)) key = true ↔ (key = kl s ∨ Maps.has D key = true) := by
  by_cases h : key = kl s
  · subst h
    have : Maps.has (D.put (kl s) (.held v)) (kl s) = true := has_true_of_atKey (fun z => atKey_put_same hm (kl_key s) _ z)
    simp [this]
  · rw [has_put_other h _]
    simp [h]
/-- Its keys are those of the list. -/
def Keys (D : DataW Value) (l : List ByteArray) : Prop := ∀ key, Maps.has D key = true ↔ ∃ s, s ∈ l ∧ key = kl s
theorem keys_put {D : DataW Value} (hm : IsMap D) {l : List ByteArray} {k : Nat} (h : Keys D (l.take k)) (hk : k < l.length) (v : Value) : Keys (D.put (kl l[k]) (.held v)) (l.take (k + 1)) := by
  intro key
  rw [has_put hm, h key, List.take_succ_eq_append_getElem hk]
  simp only [List.mem_append, List.mem_singleton]
  constructor
  · rintro (rfl | ⟨s, h1, rfl⟩)
    · exact ⟨_, .inr rfl, rfl⟩
    · exact ⟨s, .inl h1, rfl⟩
  · rintro ⟨s, h1 | rfl, rfl⟩
    · exact .inr ⟨s, h1, rfl⟩
    · exact .inl rfl
/-- The loop under way. -/
def Bl (w : World) (n : Nat) (l : List ByteArray) (i : Value) (wr : World) : Prop :=
  ∃ (k : Nat) (D : DataW Value), k ≤ n ∧ i = .int .i64 k ∧ MD wr w.heap.size k D ∧ Mpd.Good D ∧ Keys D (l.take k) ∧ Below w.heap.size w wr
def Bm (l : List ByteArray) (w : World) (e : Ending) (w' : World) : Prop :=
  (∃ D, e = .returned (.tuple #[.map (some w.heap.size), .bool true]) ∧ MD w' w.heap.size l.length D ∧ Mpd.Good D ∧ Keys D l ∧ Below w.heap.size w w') ∨ (e = .returned (.tuple #[.map none, .bool false]) ∧ Below w.heap.size w w')
set_option maxRecDepth 100000 in
set_option maxHeartbeats 4000000 in
theorem build8 (A : Option Addr) (n c : Nat) (l : List ByteArray) (B : Option Addr) (m d : Nat) (vs : List ByteArray) (C : Option Addr) (q e0 : Nat) (bs : List Bool) (w : World) (hl : l.length = n) (hn : n ≤ 1048576) (hs : ∀ s ∈ l, s.size ≤ maxLen) (hr : Rd w w.heap.size A (sv l))
    (hk : vs.length = m) (hm : m ≤ 1048576) (hv : Rd w w.heap.size B (sv vs)) (hb : bs.length = q) (hq : q ≤ 1048576) (ht : Rd w w.heap.size C (tv bs)) :
    Calls Tryf.prog 8 #[.bool false, .slice A n c, .slice B m d, .slice C q e0] w (Bm l w) := by
  have hmk := make28 n
  have HL := Lib.hid hl; have HR := Lib.hid hr; have HS := Lib.hid hs
  have HK := Lib.hid hk; have HV := Lib.hid hv; have HB := Lib.hid hb; have HT := Lib.hid ht
  clear hl hr hs hk hv hb ht
  have hM0 : MD (w.alloc (.map #[] 0)) w.heap.size 0 (.map []) := World.ownsMap_made w Tryf.prog 9 self
  have HM0 := Lib.hid hM0
  clear hM0
  go_enter Tryf.func8, Tryf.ntmps8
  go_wp2
  clear hmk
  go_loopw [11] (fun i wr => Bl w n l i wr) (fun i _ => n - (intOf i).toNat)
  case atStart => exact ⟨0, .map [], by omega, rfl, HM0.out, (fun k hk => by cases hk), (fun key => by simp [Maps.has]), (Below.refl _ _).alloc (Nat.le_refl _) _⟩
  case round =>
    obtain ⟨k, D, hk, rfl, hM, hG, hH, hbel⟩ := hrel
    by_cases hlt : k < n
    · have hkl : k < l.length := by rw [HL.out]; exact hlt
      obtain ⟨x, rfl, hxb, cx0⟩ := HR.out.at_ (sv_at l k hkl)
      have cx := (hbel.cell (p := x.add k) (by rw [add_block]; exact hxb)).trans cx0
      have hz := HS.out _ (List.getElem_mem hkl)
      have KP := Lib.hid (fun v => keys_put hM.isMap hH hkl v)
      obtain ⟨s1, hs1⟩ : ∃ s, s = l[k] := ⟨_, rfl⟩
      rw [← hs1] at cx hz
      have HS1 := Lib.hid hs1
      have x1 : (0 : Int) ≤ (k : Int) := by omega
      have x2 : (k : Int) < (n : Int) := by omega
      have hkn : k < maxLen := by unfold maxLen; omega
      have HM := Lib.hid hM; have HG := Lib.hid hG; have HH := Lib.hid hH; have HBL := Lib.hid hbel; have HZ := Lib.hid hz
      have fin : ∀ (o : Option ByteArray) (w2 : World), (∀ x, o = some x → x ≠ proto) → MD w2 w.heap.size (k + 1) (D.put (kl s1) (.held (shp o))) → wr.grownBy w2 (some w.heap.size) → Hid (Bl w n l (.int .i64 ((k : Int) + 1)) w2) := fun o w2 hne h2 g2 =>
        Lib.hid ⟨k + 1, _, by omega, by go_num, h2, good_put HG.out HM.out.isMap s1 o hne, (by rw [HS1.out]; exact KP.out _), HBL.out.grown g2 HBL.out.size (fun j hj => by cases hj; exact Nat.le_refl _)⟩
      have FIN := Lib.hid fin
      clear fin hM hG hH hbel hz hs1 cx0 hxb
      by_cases hq1 : k < q
      · have hkb : k < bs.length := by rw [HB.out]; exact hq1
        obtain ⟨z, rfl, hzb, cz0⟩ := HT.out.at_ (tv_at bs k hkb)
        have cz := (HBL.out.cell (p := z.add k) (by rw [add_block]; exact hzb)).trans cz0
        obtain ⟨t, ht⟩ : ∃ t, t = bs[k] := ⟨_, rfl⟩
        rw [← ht] at cz
        have z2 : (k : Int) < (q : Int) := by omega
        clear cz0 hzb ht
        cases t
        · by_cases hm1 : k < m
          · have hkv : k < vs.length := by rw [HK.out]; exact hm1
            obtain ⟨y, rfl, hyb, cy0⟩ := HV.out.at_ (sv_at vs k hkv)
            have cy := (HBL.out.cell (p := y.add k) (by rw [add_block]; exact hyb)).trans cy0
            obtain ⟨v, hv⟩ : ∃ v, v = vs[k] := ⟨_, rfl⟩
            rw [← hv] at cy
            have y2 : (k : Int) < (m : Int) := by omega
            clear cy0 hyb hv
            by_cases hp : v = proto
            · have h1 : (v.toList == [95, 95, 112, 114, 111, 116, 111, 95, 95]) = true := by rw [← proto_list, eq_toList]; exact decide_eq_true hp
              have PB := Lib.hid HBL.out
              clear hp FIN
              go_wp2
              go_ret2
              exact .inr ⟨rfl, PB.out⟩
            · have h1 : (v.toList == [95, 95, 112, 114, 111, 116, 111, 95, 95]) = false := by rw [← proto_list, eq_toList]; exact decide_eq_false hp
              have HP := Lib.hid hp
              clear hp
              go_wp2_with (at_mapUpdate; refine wpList_mapUpdate_own _ rfl _ _ _ 28 rfl 9 20 law9 Tryf.underlying28 self w.heap.size k D rfl HM.out hkn _ _ _ rfl rfl (WideMaps.keyOf_string_mk Tryf.underlying9 HZ.out) _ [] rfl ?_; intro w2 hout2 hg2; go_frame)
              have F := FIN.out (some v) w2 (fun x hx => by injection hx with hx; subst hx; exact HP.out) hout2 hg2
              clear hout2 hg2 FIN
              go_roundw
              case rel => first | exact F.out | ((repeat apply Exists.intro); exact ⟨F.out, by simp⟩)
              case measure => simp [intOf]; omega
          · have y2 : ¬ (k : Int) < (m : Int) := by omega
            go_wp2_with (at_mapUpdate; refine wpList_mapUpdate_own _ rfl _ _ _ 28 rfl 9 20 law9 Tryf.underlying28 self w.heap.size k D rfl HM.out hkn _ (shp (some { data := #[] })) _ rfl rfl (WideMaps.keyOf_string_mk Tryf.underlying9 HZ.out) (.held (shp (some { data := #[] }))) [] rfl ?_; intro w2 hout2 hg2; go_frame)
            have F := FIN.out (some { data := #[] }) w2 (fun x hx => by injection hx with hx; subst hx; decide) hout2 hg2
            clear hout2 hg2 FIN
            go_roundw
            case rel => first | exact F.out | ((repeat apply Exists.intro); exact ⟨F.out, by simp⟩)
            case measure => simp [intOf]; omega
        · go_wp2_with (at_mapUpdate; refine wpList_mapUpdate_own _ rfl _ _ _ 28 rfl 9 20 law9 Tryf.underlying28 self w.heap.size k D rfl HM.out hkn _ (shp none) _ rfl rfl (WideMaps.keyOf_string_mk Tryf.underlying9 HZ.out) (.held (shp none)) [] rfl ?_; intro w2 hout2 hg2; go_frame)
          have F := FIN.out none w2 (fun x hx => by cases hx) hout2 hg2
          clear hout2 hg2 FIN
          go_roundw
          case rel => first | exact F.out | ((repeat apply Exists.intro); exact ⟨F.out, by simp⟩)
          case measure => simp [intOf]; omega
      · have z2 : ¬ (k : Int) < (q : Int) := by omega
        by_cases hm1 : k < m
        · have hkv : k < vs.length := by rw [HK.out]; exact hm1
          obtain ⟨y, rfl, hyb, cy0⟩ := HV.out.at_ (sv_at vs k hkv)
          have cy := (HBL.out.cell (p := y.add k) (by rw [add_block]; exact hyb)).trans cy0
          obtain ⟨v, hv⟩ : ∃ v, v = vs[k] := ⟨_, rfl⟩
          rw [← hv] at cy
          have y2 : (k : Int) < (m : Int) := by omega
          clear cy0 hyb hv
          by_cases hp : v = proto
          · have h1 : (v.toList == [95, 95, 112, 114, 111, 116, 111, 95, 95]) = true := by rw [← proto_list, eq_toList]; exact decide_eq_true hp
            have PB := Lib.hid HBL.out
            clear hp FIN
            go_wp2
            go_ret2
            exact .inr ⟨rfl, PB.out⟩
          · have h1 : (v.toList == [95, 95, 112, 114, 111, 116, 111, 95, 95]) = false := by rw [← proto_list, eq_toList]; exact decide_eq_false hp
            have HP := Lib.hid hp
            clear hp
            go_wp2_with (at_mapUpdate; refine wpList_mapUpdate_own _ rfl _ _ _ 28 rfl 9 20 law9 Tryf.underlying28 self w.heap.size k D rfl HM.out hkn _ _ _ rfl rfl (WideMaps.keyOf_string_mk Tryf.underlying9 HZ.out) _ [] rfl ?_; intro w2 hout2 hg2; go_frame)
            have F := FIN.out (some v) w2 (fun x hx => by injection hx with hx; subst hx; exact HP.out) hout2 hg2
            clear hout2 hg2 FIN
            go_roundw
            case rel => first | exact F.out | ((repeat apply Exists.intro); exact ⟨F.out, by simp⟩)
            case measure => simp [intOf]; omega
        · have y2 : ¬ (k : Int) < (m : Int) := by omega
          go_wp2_with (at_mapUpdate; refine wpList_mapUpdate_own _ rfl _ _ _ 28 rfl 9 20 law9 Tryf.underlying28 self w.heap.size k D rfl HM.out hkn _ (shp (some { data := #[] })) _ rfl rfl (WideMaps.keyOf_string_mk Tryf.underlying9 HZ.out) (.held (shp (some { data := #[] }))) [] rfl ?_; intro w2 hout2 hg2; go_frame)
          have F := FIN.out (some { data := #[] }) w2 (fun x hx => by injection hx with hx; subst hx; decide) hout2 hg2
          clear hout2 hg2 FIN
          go_roundw
          case rel => first | exact F.out | ((repeat apply Exists.intro); exact ⟨F.out, by simp⟩)
          case measure => simp [intOf]; omega
    · obtain rfl : k = n := by omega
      have e1 : l.take k = l := List.take_of_length_le (by rw [HL.out]; omega)
      rw [e1] at hH
      have R : Hid (Bm l w (.returned (.tuple #[.map (some w.heap.size), .bool true])) wr) := Lib.hid (.inl ⟨D, rfl, by rw [HL.out]; exact hM, hG, hH, hbel⟩)
      clear hM hG hH hbel e1
      go_wp2
      go_ret2
      exact R.out
theorem nil8 (a1 a2 a3 : Value) (w : World) : Calls Tryf.prog 8 #[.bool true, a1, a2, a3] w fun e w' => e = .returned (.tuple #[.map none, .bool true]) ∧ w = w' := by
  go_enter Tryf.func8, Tryf.ntmps8
  go_wp2
  go_ret2
  exact ⟨rfl, rfl⟩
theorem nil10 (w : World) : Calls Tryf.prog 10 #[log0, .map none] w fun e w' => e = .returned (.map none) ∧ Below w.heap.size w w' := by
  have hnl := fun (W : World) => run_eql_map_nil (P := Tryf.prog) W 28 9 20 none Tryf.underlying28
  unfold log0
  go_enter Tryf.func10, Tryf.ntmps10
  go_wp2
  go_ret
  exact ⟨rfl, (Below.refl _ _).alloc (Nat.le_refl _) _⟩
theorem nil9 (w : World) : Calls Tryf.prog 9 #[.map none] w fun e w' => e = .returned (.map none) ∧ Below w.heap.size w w' := by
  have C := Lib.hid (nil10 w)
  unfold log0 at C
  go_enter Tryf.func9, Tryf.ntmps9
  go_wp2_with fail
  refine C.out.mono ?_
  rintro e w' ⟨rfl, hb⟩
  go_wp2
  go_ret
  exact ⟨rfl, hb⟩
theorem clone9 (b n : Nat) (D : DataW Value) (w : World) (hown : MD w b n D) (hG : Mpd.Good D) (hmax : Maps.size D ≤ 1048576) :
    Calls Tryf.prog 9 #[.map (some b)] w fun e w' => e = .returned (.map (some (w.heap.size + 1))) ∧ MD w' (w.heap.size + 1) (Maps.size D) D ∧ Below w.heap.size w w' := by
  have C := Lib.hid (clone10 b n D w hown hG hmax)
  unfold log0 at C
  clear hown hG
  go_enter Tryf.func9, Tryf.ntmps9
  go_wp2_with fail
  refine C.out.mono ?_
  rintro e w' ⟨rfl, h1, hb⟩
  go_wp2
  go_ret
  exact ⟨rfl, h1, hb⟩
end Go.Proofs.YtpaefmnjhfldjaaFmt.Cmb
