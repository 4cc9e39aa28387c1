/- The walk of the law FnValueForKeyAppendKeepsEarlierAnswers: it returns true for every input. No condition. -/
import Derived.Test.YthenbnofpdjimaaVkC
import Derived.Deep.DeepCutAuto
namespace Go.Proofs.Ythenbnofpdjimaa.fnValueForKeyAppendKeepsEarlierAnswers
open Go.ChangeShapes Go.WideShapes Go.ChangeAt Go.RowKit Go.Deep Go.Proofs.Ythenbnofpdjimaa.Base Go.Proofs.Ythenbnofpdjimaa.Itoa Go.Proofs.Ythenbnofpdjimaa.Keyed Go.Proofs.Ythenbnofpdjimaa.Sls Go.Proofs.Ythenbnofpdjimaa.Swap Go.Proofs.Ythenbnofpdjimaa.Vk
set_option linter.unusedVariables false
attribute [local go_sem ↓] Go.wp_at_zero Go.wp_at_succ
/-! ### PLAIN -/
def more (f : Nat → ByteArray) (n : Nat) (x : ByteArray) (i : Nat) : ByteArray := if i < n then f i else x
def cop (f : Nat → ByteArray) (k i : Nat) : Value := if i < k then .string (f i) else .string { data := #[] }
theorem cop_step (f : Nat → ByteArray) (k i : Nat) : (if i = k then Value.string (f k) else cop f k i) = cop f (k + 1) i := by
  unfold cop
  by_cases h : i = k
  · subst h; rw [if_pos rfl, if_pos (by omega)]
  · rw [if_neg h]
    by_cases h2 : i < k
    · rw [if_pos h2, if_pos (by omega)]
    · rw [if_neg h2, if_neg (by omega)]
theorem cop_more (f : Nat → ByteArray) (n : Nat) (x : ByteArray) (i : Nat) (h : i < n + 1) : (if i = n then Value.string x else cop f n i) = .string (more f n x i) := by
  unfold cop more
  by_cases h1 : i = n
  · rw [if_pos h1, if_neg (by omega)]
  · rw [if_neg h1, if_pos (by omega), if_pos (by omega)]
theorem first_more (ks : Nat → ByteArray) (n p : Nat) (q x : ByteArray) (vs : Nat → ByteArray) (y : ByteArray) (v : Value) (b : Bool) (h : First ks n p q) (hf : Vk.Found (more ks n x) (more vs n y) (n + 1) q v b) :
    v = .agg #[.string (vs p), .slice none 0 0, .slice none 0 0, .slice none 0 0, .int .i32 0, .int .i32 0, .int .u8 1] ∧ b = true := by
  cases hf with
  | yes p' hp =>
    have : p' = p := by
      rcases Nat.lt_trichotomy p' p with hl | he | hg
      · have := h.2.2 p' hl
        have e := hp.2.1
        unfold more at e
        rw [if_pos (by have := h.1; omega)] at e
        exact absurd e this
      · exact he
      · have := hp.2.2 p hg
        unfold more at this
        rw [if_pos h.1] at this
        exact absurd h.2.1 this
    subst this
    refine ⟨?_, rfl⟩
    unfold more; rw [if_pos h.1]
  | no hn =>
    have := hn p (by have := h.1; omega)
    unfold more at this
    rw [if_pos h.1] at this
    exact absurd h.2.1 this
theorem new_more (ks : Nat → ByteArray) (n : Nat) (q : ByteArray) (vs : Nat → ByteArray) (y : ByteArray) (v : Value) (b : Bool) (h : ∀ i, i < n → ks i ≠ q) (hf : Vk.Found (more ks n q) (more vs n y) (n + 1) q v b) :
    v = .agg #[.string y, .slice none 0 0, .slice none 0 0, .slice none 0 0, .int .i32 0, .int .i32 0, .int .u8 1] ∧ b = true := by
  cases hf with
  | yes p' hp =>
    have : p' = n := by
      rcases Nat.lt_or_ge p' n with hl | hg
      · have e := hp.2.1
        unfold more at e
        rw [if_pos hl] at e
        exact absurd e (h p' hl)
      · have := hp.1; omega
    subst this
    refine ⟨?_, rfl⟩
    unfold more; rw [if_neg (by omega)]
  | no hn =>
    have := hn n (by omega)
    unfold more at this
    rw [if_neg (by omega)] at this
    exact absurd rfl this
theorem none_more (ks : Nat → ByteArray) (n : Nat) (q x : ByteArray) (vs : Nat → ByteArray) (y : ByteArray) (v : Value) (b : Bool) (h : ∀ i, i < n → ks i ≠ q) (hx : q ≠ x) (hf : Vk.Found (more ks n x) (more vs n y) (n + 1) q v b) :
    v = .agg #[.string { data := #[] }, .slice none 0 0, .slice none 0 0, .slice none 0 0, .int .i32 0, .int .i32 0, .int .u8 0] ∧ b = false := by
  cases hf with
  | yes p' hp =>
    have e := hp.2.1
    unfold more at e
    rcases Nat.lt_or_ge p' n with hl | hg
    · rw [if_pos hl] at e
      exact absurd e (h p' hl)
    · rw [if_neg (by omega)] at e
      exact absurd e.symm hx
  | no hn => exact ⟨rfl, rfl⟩
theorem infoS : (Try.prog.info? 9).map (fun i => (i.zero, i.size, i.bytes)) = some (some (.string { data := #[] }), 1, 16) := by kernel_rfl
/-! ### THE WALK -/
set_option maxRecDepth 100000 in
set_option maxHeartbeats 4000000 in
theorem in_range (A0 A1 : Option Addr) (n c0 c1 : Nat) (l0 l1 : List ByteArray) (nk nv q : ByteArray) (w : World) (L0 : l0.length = n) (L1 : l1.length = n) (hz : n + tot l0 + (n + tot l1) + nk.size + nv.size + q.size ≤ 1048576) (hn : n ≤ 65536) (r0 : Rd w w.heap.size A0 (sv l0)) (r1 : Rd w w.heap.size A1 (sv l1))
    (Y : Calls Try.prog 15 #[.slice A0 n c0, .slice A1 n c1, .string nk, .string nv, .string q] w (Bd (n + tot l0 + (n + tot l1) + nk.size + nv.size + q.size ≤ 1048576) w)) :
    Calls Try.prog 5 #[.slice A0 n c0, .slice A1 n c1, .string nk, .string nv, .string q] w fun e w' => e = .returned (.bool true) ∧ Below w.heap.size w w' := by
  have HY := Lib.hid Y
  have SB0 := Lib.hid (strBytes2 A0 n c0 l0 w L0 (by omega) r0)
  have SB1 := Lib.hid (strBytes2 A1 n c1 l1 w L1 (by omega) r1)
  have zk : nk.size ≤ 1048576 := by omega
  have zv : nv.size ≤ 1048576 := by omega
  have zq : q.size ≤ 1048576 := by omega
  obtain ⟨ks, hks⟩ : ∃ ks : Nat → ByteArray, ks = fun i => l0.getD i ByteArray.empty := ⟨_, rfl⟩
  obtain ⟨vs, hvs⟩ : ∃ vs : Nat → ByteArray, vs = fun i => l1.getD i ByteArray.empty := ⟨_, rfl⟩
  have hx0 : 0 < n → ∃ x, A0 = some x ∧ x.block < w.heap.size ∧ ∀ k, k < n → w.cell? (x.add k) = some (.string (ks k)) := fun hp => by
    obtain ⟨x, hx, hb, hc⟩ := r0 (by rw [sv_len, L0]; omega)
    refine ⟨x, hx, hb, fun k hk => hc k _ ?_⟩
    rw [sv_at l0 k (by omega), hks]; simp [List.getD, show k < l0.length by omega]
  have hx1 : 0 < n → ∃ x, A1 = some x ∧ x.block < w.heap.size ∧ ∀ k, k < n → w.cell? (x.add k) = some (.string (vs k)) := fun hp => by
    obtain ⟨x, hx, hb, hc⟩ := r1 (by rw [sv_len, L1]; omega)
    refine ⟨x, hx, hb, fun k hk => hc k _ ?_⟩
    rw [sv_at l1 k (by omega), hvs]; simp [List.getD, show k < l1.length by omega]
  have X0 := Lib.hid hx0; have X1 := Lib.hid hx1
  clear Y r0 r1 L0 L1 hz hks hvs hx0 hx1
  have hmk := fun W => run_make_row' (P := Try.prog) 26 9 (.string { data := #[] }) 16 Try.underlying26 infoS rfl .i64 .i64 (n + 1) (by omega) (by omega) W
  simp only [Int.natCast_add, Int.cast_ofNat_Int] at hmk
  have hne : ((n : Int) != (n : Int)) = false := by simp
  go_enter Try.func5, Try.ntmps5
  go_wp2_with fail
  refine HY.out.mono ?_
  rintro e w' ⟨b, rfl, hb, rfl⟩
  clear hb
  cases b
  · clear hmk
    go_wp2
    go_ret
    exact ⟨rfl, Below.refl _ _⟩
  go_wp2_with fail
  refine SB0.out.mono ?_
  rintro e w' ⟨t0, rfl, ht0, _, rfl⟩
  go_wp2_with fail
  refine SB1.out.mono ?_
  rintro e w' ⟨t1, rfl, ht1, _, rfl⟩
  by_cases hbig : 1048576 < t0 + t1 + nk.size + nv.size + q.size
  · clear hmk
    go_wp2
    go_ret
    exact ⟨rfl, Below.refl _ _⟩
  go_wp2
  clear hmk
  have RK0 := (World.rowIs_made w (.string { data := #[] }) (n + 1) 9).congr (g := cop ks 0) (fun i _ => by unfold cop; rw [if_neg (by omega)])
  have RV0 := (World.rowIs_made (w.alloc (.cells (madeCells #[.string { data := #[] }] (n + 1)) 9)) (.string { data := #[] }) (n + 1) 9).congr (g := cop vs 0) (fun i _ => by unfold cop; rw [if_neg (by omega)])
  rw [World.size_alloc] at RV0
  have RK1 := RK0.alloc (.cells (madeCells #[.string { data := #[] }] (n + 1)) 9)
  have BB0 := ((Below.refl w.heap.size w).alloc (Nat.le_refl _) (.cells (madeCells #[.string { data := #[] }] (n + 1)) 9)).alloc (by simp) (.cells (madeCells #[.string { data := #[] }] (n + 1)) 9)
  have HRK := Lib.hid RK1; have HRV := Lib.hid RV0; have HBB := Lib.hid BB0
  clear RK0 RV0 RK1 BB0
  generalize (w.alloc (.cells (madeCells #[.string { data := #[] }] (n + 1)) 9)).alloc (.cells (madeCells #[.string { data := #[] }] (n + 1)) 9) = w2 at HRK HRV HBB ⊢
  go_loopw [13] (fun i wr => ∃ k : Nat, k ≤ n ∧ i = .int .i64 k ∧ wr.rowIs w.heap.size 9 (n + 1) (cop ks k) ∧ wr.rowIs (w.heap.size + 1) 9 (n + 1) (cop vs k) ∧ Below w.heap.size w wr) (fun i _ => n - (intOf i).toNat)
  case atStart => exact ⟨0, by omega, rfl, HRK.out, HRV.out, HBB.out⟩
  case round =>
    obtain ⟨k, hk, rfl, RK, RV, hbel⟩ := hrel
    by_cases hlt : k < n
    · obtain ⟨x, rfl, hxb, hxc⟩ := X0.out (by omega)
      obtain ⟨y, rfl, hyb, hyc⟩ := X1.out (by omega)
      have ck : wr.cell? (x.add k) = some (.string (ks k)) := by rw [hbel.cell (by rw [add_block]; exact hxb)]; exact hxc k hlt
      have RK2 := (RK.set k (.string (ks k))).congr (fun i _ => cop_step ks k i)
      have RV1 := RV.setOther (a := ⟨w.heap.size, k, none⟩) (by simp) (.string (ks k))
      have b1 := hbel.setCell (p := ⟨w.heap.size, k, none⟩) (Nat.le_refl _) (.string (ks k))
      have cv : (wr.setCell ⟨w.heap.size, k, none⟩ (.string (ks k))).cell? (y.add k) = some (.string (vs k)) := by rw [b1.cell (by rw [add_block]; exact hyb)]; exact hyc k hlt
      have d0 := RK.cell (i := k) (by omega)
      have e0 := RK.frozen k
      have d1 := RV1.cell (i := k) (by omega)
      have e1 := RV1.frozen k
      have RV2 := (RV1.set k (.string (vs k))).congr (fun i _ => cop_step vs k i)
      have RK3 := RK2.setOther (a := ⟨w.heap.size + 1, k, none⟩) (by simp) (.string (vs k))
      have b2 := b1.setCell (p := ⟨w.heap.size + 1, k, none⟩) (by simp) (.string (vs k))
      have H1 := Lib.hid RK3; have H2 := Lib.hid RV2; have H3 := Lib.hid b2
      have x1 : (0 : Int) ≤ (k : Int) := by omega
      have x2 : (k : Int) < (n : Int) := by omega
      have x3 : (k : Int) < (n : Int) + 1 := by omega
      clear RK RV RK2 RV1 RV2 RK3 b1 b2 hbel hxc hyc
      go_wp2
      go_roundw
      case rel => exact ⟨k + 1, by omega, by go_num, H1.out, H2.out, H3.out⟩
      case measure => simp [intOf]; omega
    · obtain rfl : k = n := by omega
      have RK2 := (RK.set k (.string nk)).congr (g := fun i => .string (more ks k nk i)) (fun i hi => cop_more ks k nk i hi)
      have RV1 := RV.setOther (a := ⟨w.heap.size, k, none⟩) (by simp) (.string nk)
      have RV2 := (RV1.set k (.string nv)).congr (g := fun i => .string (more vs k nv i)) (fun i hi => cop_more vs k nv i hi)
      have RK3 := RK2.setOther (a := ⟨w.heap.size + 1, k, none⟩) (by simp) (.string nv)
      have b2 := (hbel.setCell (p := ⟨w.heap.size, k, none⟩) (Nat.le_refl _) (.string nk)).setCell (p := ⟨w.heap.size + 1, k, none⟩) (by simp) (.string nv)
      have d0 := RK.cell (i := k) (by omega)
      have e0 := RK.frozen k
      have d1 := RV1.cell (i := k) (by omega)
      have e1 := RV1.frozen k
      have H1 := Lib.hid RK3; have H2 := Lib.hid RV2; have H3 := Lib.hid b2
      have x1 : (0 : Int) ≤ (k : Int) := by omega
      have x3 : (k : Int) < (k : Int) + 1 := by omega
      clear RK RV RK2 RV1 RV2 RK3 b2 hbel
      go_upto_region 16 with (fail)
      clear d0 e0 d1 e1
      generalize (wr.setCell ⟨w.heap.size, k, none⟩ (.string nk)).setCell ⟨w.heap.size + 1, k, none⟩ (.string nv) = wS at H1 H2 H3 ⊢
      have z1 : w.heap.size + 1 < wS.heap.size := H2.out.lt
      have OB1 := Lib.hid (object_any A0 A1 k c0 c1 wS (by omega) ks vs (fun hp => by
        obtain ⟨x, hx, hb, hc⟩ := X0.out hp
        exact ⟨x, hx, by omega, fun i hi => by rw [H3.out.cell (by rw [add_block]; exact hb)]; exact hc i hi⟩) (fun hp => by
        obtain ⟨x, hx, hb, hc⟩ := X1.out hp
        exact ⟨x, hx, by omega, fun i hi => by rw [H3.out.cell (by rw [add_block]; exact hb)]; exact hc i hi⟩))
      have OB2 := Lib.hid (fun (W : World) (hb : Below wS.heap.size wS W) => object_any (some ⟨w.heap.size, 0, none⟩) (some ⟨w.heap.size + 1, 0, none⟩) (k + 1) (k + 1) (k + 1) W (by omega) (more ks k nk) (more vs k nv) (fun hp => ⟨_, rfl, by have := hb.size; show w.heap.size < W.heap.size; omega, fun i hi => by
        have e : (⟨w.heap.size, 0, none⟩ : Addr).add i = ⟨w.heap.size, i, none⟩ := by unfold Addr.add; split <;> simp_all
        rw [e, (row_keep H1.out hb (Nat.le_refl _)).cell hi]⟩) (fun hp => ⟨_, rfl, by have := hb.size; show w.heap.size + 1 < W.heap.size; omega, fun i hi => by
        have e : (⟨w.heap.size + 1, 0, none⟩ : Addr).add i = ⟨w.heap.size + 1, i, none⟩ := by unfold Addr.add; split <;> simp_all
        rw [e, (row_keep H2.out hb (Nat.le_refl _)).cell hi]⟩))
      go_wp2_with fail
      refine OB1.out.mono ?_
      rintro e w6 ⟨rfl, R6, b6⟩
      have VO1 := Lib.hid (value_of _ k ks vs q w6 (by omega) R6)
      have HB6 := Lib.hid b6
      clear R6 b6
      go_wp2_with fail
      refine VO1.out.mono ?_
      rintro e w7 ⟨v, b, rfl, hf, hb7⟩
      have HB7 := Lib.hid (below_join HB6.out HB6.out.size hb7)
      clear hb7
      cases hf with
      | yes p hp =>
        have HP := Lib.hid hp
        clear hp
        go_upto_region 17 with (fail)
        have RD := row7' w7 (.string (vs p)) (.slice none 0 0) (.slice none 0 0) (.slice none 0 0) (.int .i32 0) (.int .i32 0) (.int .u8 1)
        have bA := (HB7.out).alloc (HB7.out.size) (.cells #[.string (vs p), .slice none 0 0, .slice none 0 0, .slice none 0 0, .int .i32 0, .int .i32 0, .int .u8 1] 41)
        generalize w7.alloc (.cells #[.string (vs p), .slice none 0 0, .slice none 0 0, .slice none 0 0, .int .i32 0, .int .i32 0, .int .u8 1] 41) = w8 at RD bA ⊢
        have HRD := Lib.hid RD; have HBA := Lib.hid bA
        clear RD bA
        have OC := Lib.hid (OB2.out w8 HBA.out)
        go_wp2_with fail
        refine OC.out.mono ?_
        rintro e w9 ⟨rfl, R9, b9⟩
        have VO2 := Lib.hid (value_of _ (k + 1) _ _ q w9 (by omega) R9)
        have HB9 := Lib.hid b9
        clear R9 b9
        go_wp2_with fail
        refine VO2.out.mono ?_
        rintro e w10 ⟨v, b, rfl, hf, hb10⟩
        obtain ⟨rfl, rfl⟩ := first_more ks k p q nk vs nv v b HP.out hf
        have HB10 := Lib.hid (below_join HB9.out HB9.out.size hb10)
        clear hf hb10
        go_upto_region 18 with (fail)
        have RD2 := row7' w10 (.string (vs p)) (.slice none 0 0) (.slice none 0 0) (.slice none 0 0) (.int .i32 0) (.int .i32 0) (.int .u8 1)
        have RD1 := (row_keep HRD.out HB10.out (Nat.le_refl _)).alloc (.cells #[.string (vs p), .slice none 0 0, .slice none 0 0, .slice none 0 0, .int .i32 0, .int .i32 0, .int .u8 1] 41)
        have bZ := ((H3.out.trans (HBA.out.mono (by omega))).trans (HB10.out.mono (by have := HBA.out.size; omega))).alloc (by have := HBA.out.size; have := HB10.out.size; omega) (.cells #[.string (vs p), .slice none 0 0, .slice none 0 0, .slice none 0 0, .int .i32 0, .int .i32 0, .int .u8 1] 41)
        generalize w10.alloc (.cells #[.string (vs p), .slice none 0 0, .slice none 0 0, .slice none 0 0, .int .i32 0, .int .i32 0, .int .u8 1] 41) = w11 at RD2 RD1 bZ ⊢
        have a0 := RD1.cell (i := 0) (by omega)
        have b0 := RD2.cell (i := 0) (by omega)
        have a1 := RD1.cell (i := 1) (by omega)
        have b1 := RD2.cell (i := 1) (by omega)
        have a2 := RD1.cell (i := 2) (by omega)
        have b2 := RD2.cell (i := 2) (by omega)
        have a3 := RD1.cell (i := 3) (by omega)
        have b3 := RD2.cell (i := 3) (by omega)
        have a4 := RD1.cell (i := 4) (by omega)
        have b4 := RD2.cell (i := 4) (by omega)
        have a5 := RD1.cell (i := 5) (by omega)
        have b5 := RD2.cell (i := 5) (by omega)
        have a6 := RD1.cell (i := 6) (by omega)
        have b6 := RD2.cell (i := 6) (by omega)
        have l1 := RD1.lt
        have l2 := RD2.lt
        simp only [sev] at a0 a1 a2 a3 a4 a5 a6 b0 b1 b2 b3 b4 b5 b6
        have HZ := Lib.hid bZ
        clear RD1 RD2 bZ
        have q1 : ((vs p).toList == (vs p).toList) = true := by simp
        have q2 : ((1 : Int) == 1) = true := rfl
        have acc : Below w11.heap.size w11 w11.drew := (Below.refl _ _).drew
        generalize w7.heap.size = D1 at a0 a1 a2 a3 a4 a5 a6 l1 ⊢
        generalize w10.heap.size = D2 at b0 b1 b2 b3 b4 b5 b6 l2 ⊢
        go_wp2
        go_region_held3 (fun w' => w'.cell? ⟨D1, 0, none⟩ = some (.string (vs p)) ∧ w'.cell? ⟨D1, 1, none⟩ = some (.slice none 0 0) ∧ w'.cell? ⟨D1, 2, none⟩ = some (.slice none 0 0) ∧ w'.cell? ⟨D1, 3, none⟩ = some (.slice none 0 0) ∧ w'.cell? ⟨D1, 4, none⟩ = some (.int .i32 0) ∧ w'.cell? ⟨D1, 5, none⟩ = some (.int .i32 0) ∧ w'.cell? ⟨D1, 6, none⟩ = some (.int .u8 1) ∧ w'.cell? ⟨D2, 0, none⟩ = some (.string (vs p)) ∧ w'.cell? ⟨D2, 1, none⟩ = some (.slice none 0 0) ∧ w'.cell? ⟨D2, 2, none⟩ = some (.slice none 0 0) ∧ w'.cell? ⟨D2, 3, none⟩ = some (.slice none 0 0) ∧ w'.cell? ⟨D2, 4, none⟩ = some (.int .i32 0) ∧ w'.cell? ⟨D2, 5, none⟩ = some (.int .i32 0) ∧ w'.cell? ⟨D2, 6, none⟩ = some (.int .u8 1))
          (first | go_keep | (go_split_ands; refine ⟨?_, ?_, ?_, ?_, ?_, ?_, ?_, ?_, ?_, ?_, ?_, ?_, ?_, ?_⟩ <;> (rw [bcell acc (by assumption)]; assumption)))
          ((first | (go_at_call 18; refine (kind_any _ _ _ (by omega) (by omega)).mono ?_; rintro e w12 ⟨rfl, hb12⟩; have acc := below_join acc acc.size hb12; clear hb12) | (go_at_call 19; refine (str_any _ _).mono ?_; rintro e w13 ⟨rfl, hb13⟩; have acc := below_join acc acc.size hb13; clear hb13)))
        have ACC := Lib.hid (HZ.out.trans (acc.mono HZ.out.size))
        clear acc a0 a1 a2 a3 a4 a5 a6 b0 b1 b2 b3 b4 b5 b6
        go_wp2
        go_ret
        exact ⟨rfl, ACC.out⟩
      | no hno =>
        have HNO := Lib.hid hno
        clear hno
        by_cases hqn : q = nk
        · subst hqn
          go_upto_region 17 with (fail)
          have RD := row7' w7 (.string { data := #[] }) (.slice none 0 0) (.slice none 0 0) (.slice none 0 0) (.int .i32 0) (.int .i32 0) (.int .u8 0)
          have bA := (HB7.out).alloc (HB7.out.size) (.cells #[.string { data := #[] }, .slice none 0 0, .slice none 0 0, .slice none 0 0, .int .i32 0, .int .i32 0, .int .u8 0] 41)
          generalize w7.alloc (.cells #[.string { data := #[] }, .slice none 0 0, .slice none 0 0, .slice none 0 0, .int .i32 0, .int .i32 0, .int .u8 0] 41) = w8 at RD bA ⊢
          have HRD := Lib.hid RD; have HBA := Lib.hid bA
          clear RD bA
          have OC := Lib.hid (OB2.out w8 HBA.out)
          go_wp2_with fail
          refine OC.out.mono ?_
          rintro e w9 ⟨rfl, R9, b9⟩
          have VO2 := Lib.hid (value_of _ (k + 1) _ _ q w9 (by omega) R9)
          have HB9 := Lib.hid b9
          clear R9 b9
          go_wp2_with fail
          refine VO2.out.mono ?_
          rintro e w10 ⟨v, b, rfl, hf, hb10⟩
          obtain ⟨rfl, rfl⟩ := new_more ks k q vs nv v b HNO.out hf
          have HB10 := Lib.hid (below_join HB9.out HB9.out.size hb10)
          clear hf hb10
          go_upto_region 18 with (fail)
          have RD2 := row7' w10 (.string nv) (.slice none 0 0) (.slice none 0 0) (.slice none 0 0) (.int .i32 0) (.int .i32 0) (.int .u8 1)
          have RD1 := (row_keep HRD.out HB10.out (Nat.le_refl _)).alloc (.cells #[.string nv, .slice none 0 0, .slice none 0 0, .slice none 0 0, .int .i32 0, .int .i32 0, .int .u8 1] 41)
          have bZ := ((H3.out.trans (HBA.out.mono (by omega))).trans (HB10.out.mono (by have := HBA.out.size; omega))).alloc (by have := HBA.out.size; have := HB10.out.size; omega) (.cells #[.string nv, .slice none 0 0, .slice none 0 0, .slice none 0 0, .int .i32 0, .int .i32 0, .int .u8 1] 41)
          generalize w10.alloc (.cells #[.string nv, .slice none 0 0, .slice none 0 0, .slice none 0 0, .int .i32 0, .int .i32 0, .int .u8 1] 41) = w11 at RD2 RD1 bZ ⊢
          have a0 := RD1.cell (i := 0) (by omega)
          have b0 := RD2.cell (i := 0) (by omega)
          have a1 := RD1.cell (i := 1) (by omega)
          have b1 := RD2.cell (i := 1) (by omega)
          have a2 := RD1.cell (i := 2) (by omega)
          have b2 := RD2.cell (i := 2) (by omega)
          have a3 := RD1.cell (i := 3) (by omega)
          have b3 := RD2.cell (i := 3) (by omega)
          have a4 := RD1.cell (i := 4) (by omega)
          have b4 := RD2.cell (i := 4) (by omega)
          have a5 := RD1.cell (i := 5) (by omega)
          have b5 := RD2.cell (i := 5) (by omega)
          have a6 := RD1.cell (i := 6) (by omega)
          have b6 := RD2.cell (i := 6) (by omega)
          have l1 := RD1.lt
          have l2 := RD2.lt
          simp only [sev] at a0 a1 a2 a3 a4 a5 a6 b0 b1 b2 b3 b4 b5 b6
          have HZ := Lib.hid bZ
          clear RD1 RD2 bZ
          have q0 : (q.toList == q.toList) = true := by simp
          have q1 : (nv.toList == nv.toList) = true := by simp
          have q2 : ((1 : Int) == 1) = true := rfl
          generalize w10.heap.size = D2 at b0 b1 b2 b3 b4 b5 b6 l2 ⊢
          clear a0 a1 a2 a3 a4 a5 a6
          go_wp2_with fail
          refine (kind_any nv 1 _ (by omega) (by omega)).mono ?_
          rintro e w12 ⟨rfl, hb12⟩
          rw [← bcell hb12 l2] at b0
          rw [← bcell hb12 l2] at b1
          rw [← bcell hb12 l2] at b2
          rw [← bcell hb12 l2] at b3
          rw [← bcell hb12 l2] at b4
          rw [← bcell hb12 l2] at b5
          rw [← bcell hb12 l2] at b6
          have HB12 := Lib.hid (below_join HZ.out HZ.out.size hb12)
          clear hb12
          go_wp2_with fail
          refine (str_any nv _).mono ?_
          rintro e w13 ⟨rfl, hb13⟩
          have HB13 := Lib.hid (below_join HB12.out HB12.out.size hb13)
          clear hb13 b0 b1 b2 b3 b4 b5 b6
          go_wp2
          go_ret
          exact ⟨rfl, HB13.out⟩
        · have HQN := Lib.hid hqn
          have q0 : (q.toList == nk.toList) = false := by rw [eq_toList]; simp [hqn]
          clear hqn
          go_upto_region 17 with (fail)
          have RD := row7' w7 (.string { data := #[] }) (.slice none 0 0) (.slice none 0 0) (.slice none 0 0) (.int .i32 0) (.int .i32 0) (.int .u8 0)
          have bA := (HB7.out).alloc (HB7.out.size) (.cells #[.string { data := #[] }, .slice none 0 0, .slice none 0 0, .slice none 0 0, .int .i32 0, .int .i32 0, .int .u8 0] 41)
          generalize w7.alloc (.cells #[.string { data := #[] }, .slice none 0 0, .slice none 0 0, .slice none 0 0, .int .i32 0, .int .i32 0, .int .u8 0] 41) = w8 at RD bA ⊢
          have HRD := Lib.hid RD; have HBA := Lib.hid bA
          clear RD bA
          have OC := Lib.hid (OB2.out w8 HBA.out)
          go_wp2_with fail
          refine OC.out.mono ?_
          rintro e w9 ⟨rfl, R9, b9⟩
          have VO2 := Lib.hid (value_of _ (k + 1) _ _ q w9 (by omega) R9)
          have HB9 := Lib.hid b9
          clear R9 b9
          go_wp2_with fail
          refine VO2.out.mono ?_
          rintro e w10 ⟨v, b, rfl, hf, hb10⟩
          obtain ⟨rfl, rfl⟩ := none_more ks k q nk vs nv v b HNO.out HQN.out hf
          have HB10 := Lib.hid (below_join HB9.out HB9.out.size hb10)
          clear hf hb10
          go_upto_region 18 with (fail)
          have RD2 := row7' w10 (.string { data := #[] }) (.slice none 0 0) (.slice none 0 0) (.slice none 0 0) (.int .i32 0) (.int .i32 0) (.int .u8 0)
          have RD1 := (row_keep HRD.out HB10.out (Nat.le_refl _)).alloc (.cells #[.string { data := #[] }, .slice none 0 0, .slice none 0 0, .slice none 0 0, .int .i32 0, .int .i32 0, .int .u8 0] 41)
          have bZ := ((H3.out.trans (HBA.out.mono (by omega))).trans (HB10.out.mono (by have := HBA.out.size; omega))).alloc (by have := HBA.out.size; have := HB10.out.size; omega) (.cells #[.string { data := #[] }, .slice none 0 0, .slice none 0 0, .slice none 0 0, .int .i32 0, .int .i32 0, .int .u8 0] 41)
          generalize w10.alloc (.cells #[.string { data := #[] }, .slice none 0 0, .slice none 0 0, .slice none 0 0, .int .i32 0, .int .i32 0, .int .u8 0] 41) = w11 at RD2 RD1 bZ ⊢
          have a0 := RD1.cell (i := 0) (by omega)
          have b0 := RD2.cell (i := 0) (by omega)
          have a1 := RD1.cell (i := 1) (by omega)
          have b1 := RD2.cell (i := 1) (by omega)
          have a2 := RD1.cell (i := 2) (by omega)
          have b2 := RD2.cell (i := 2) (by omega)
          have a3 := RD1.cell (i := 3) (by omega)
          have b3 := RD2.cell (i := 3) (by omega)
          have a4 := RD1.cell (i := 4) (by omega)
          have b4 := RD2.cell (i := 4) (by omega)
          have a5 := RD1.cell (i := 5) (by omega)
          have b5 := RD2.cell (i := 5) (by omega)
          have a6 := RD1.cell (i := 6) (by omega)
          have b6 := RD2.cell (i := 6) (by omega)
          have l1 := RD1.lt
          have l2 := RD2.lt
          simp only [sev] at a0 a1 a2 a3 a4 a5 a6 b0 b1 b2 b3 b4 b5 b6
          have HZ := Lib.hid bZ
          clear RD1 RD2 bZ
          generalize w10.heap.size = D2 at b0 b1 b2 b3 b4 b5 b6 l2 ⊢
          clear a0 a1 a2 a3 a4 a5 a6
          go_wp2_with fail
          refine (zero_any _).mono ?_
          rintro e w12 ⟨rfl, hb12⟩
          have HB12 := Lib.hid (below_join HZ.out HZ.out.size hb12)
          clear hb12 b0 b1 b2 b3 b4 b5 b6
          go_wp2
          go_ret
          exact ⟨rfl, HB12.out⟩
theorem walk (a0 : Option Addr) (len0 cap0 : Nat) (z0 : List ByteArray) (a1 : Option Addr) (len1 cap1 : Nat) (z1 : List ByteArray) (a2 : ByteArray) (a3 : ByteArray) (a4 : ByteArray) (w : World) (w0 : IsStrs w a0 len0 cap0 z0) (w1 : IsStrs w a1 len1 cap1 z1) (w2 : a2.size ≤ maxLen) (w3 : a3.size ≤ maxLen) (w4 : a4.size ≤ maxLen) :
    Calls Try.prog 5 #[.slice a0 len0 cap0, .slice a1 len1 cap1, .string a2, .string a3, .string a4] w fun e w' => e = .returned (.bool true) ∧ Below w.heap.size w w' := by
  obtain ⟨⟨l0, L0, r0, m0⟩, e0, g0⟩ := rd_of_strs w0
  obtain ⟨⟨l1, L1, r1, m1⟩, e1, g1⟩ := rd_of_strs w1
  have hy := bytes15 a0 len0 cap0 l0 a1 len1 cap1 l1 a2 a3 a4 w L0 g0 r0 m0 L1 g1 r1 m1 w2 w3 w4
  clear w0 w1
  by_cases hz : len0 + tot l0 + (len1 + tot l1) + a2.size + a3.size + a4.size ≤ 1048576
  · by_cases hr : len0 = len1 ∧ len0 ≤ 65536
    · obtain ⟨rfl, hn⟩ := hr
      exact in_range a0 a1 len0 cap0 cap1 l0 l1 a2 a3 a4 w L0 L1 hz hn r0 r1 hy
    · have HY := Lib.hid hy
      have SB0 := Lib.hid (strBytes2 a0 len0 cap0 l0 w L0 (by omega) r0)
      have SB1 := Lib.hid (strBytes2 a1 len1 cap1 l1 w L1 (by omega) r1)
      have z2 : a2.size ≤ 1048576 := by omega
      have z3 : a3.size ≤ 1048576 := by omega
      have z4 : a4.size ≤ 1048576 := by omega
      have n0 : len0 ≤ 1048576 := by omega
      have n1 : len1 ≤ 1048576 := by omega
      have HR := Lib.hid hr
      clear hy L0 r0 m0 e0 g0 hz L1 r1 m1 e1 g1 w2 w3 w4 hr
      go_enter Try.func5, Try.ntmps5
      go_wp2_with fail
      refine HY.out.mono ?_
      rintro e w' ⟨b, rfl, hb, rfl⟩
      clear hb
      cases b
      · go_wp2
        go_ret
        exact ⟨rfl, Below.refl _ _⟩
      go_wp2_with fail
      refine SB0.out.mono ?_
      rintro e w' ⟨t0, rfl, ht0, hi0, rfl⟩
      have HI0 := Lib.hid hi0
      clear hi0
      go_wp2_with fail
      refine SB1.out.mono ?_
      rintro e w' ⟨t1, rfl, ht1, hi1, rfl⟩
      clear hi1
      by_cases hbig : 1048576 < t0 + t1 + a2.size + a3.size + a4.size
      · go_wp2
        go_ret
        exact ⟨rfl, Below.refl _ _⟩
      · have hne : ((len0 : Int) != (len1 : Int)) = true := by
          rw [bne_iff_ne]
          intro e
          exact HR.out ⟨by omega, HI0.out (by omega)⟩
        go_wp2
        go_ret
        exact ⟨rfl, Below.refl _ _⟩
  · have H := Lib.hid hy
    have HZ := Lib.hid hz
    clear hy hz L0 r0 m0 e0 g0 L1 r1 m1 e1 g1 w2 w3 w4
    go_enter Try.func5, Try.ntmps5
    go_wp2_with fail
    refine H.out.mono ?_
    rintro e w' ⟨b, rfl, hb, rfl⟩
    cases b
    · clear hb
      go_wp2
      go_ret
      exact ⟨rfl, Below.refl _ _⟩
    · exact absurd (hb rfl) HZ.out
end Go.Proofs.Ythenbnofpdjimaa.fnValueForKeyAppendKeepsEarlierAnswers
