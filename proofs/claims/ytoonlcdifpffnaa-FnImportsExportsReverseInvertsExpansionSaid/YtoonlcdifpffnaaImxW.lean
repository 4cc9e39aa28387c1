/- The walk of the law FnImportsExportsReverseInvertsExpansion: for all keys, values and parts it returns true. No condition. -/
import Derived.Test.YtoonlcdifpffnaaIeG
namespace Go.Proofs.Ytoonlcdifpffnaa.fnImportsExportsReverseInvertsExpansion
open Go.RowKit Go.Deep Go.Proofs.Ytoonlcdifpffnaa.Base Go.Proofs.Ytoonlcdifpffnaa.Sls Go.Proofs.Ytoonlcdifpffnaa.IeA Go.Proofs.Ytoonlcdifpffnaa.IeB Go.Proofs.Ytoonlcdifpffnaa.IeC Go.Proofs.Ytoonlcdifpffnaa.IeD Go.Proofs.Ytoonlcdifpffnaa.IeE Go.Proofs.Ytoonlcdifpffnaa.IeF Go.Proofs.Ytoonlcdifpffnaa.IeG
set_option linter.unusedVariables false
attribute [local go_sem ↓] Go.wp_at_zero Go.wp_at_succ
def fn (l : List ByteArray) : Nat → ByteArray := fun i => l.getD i { data := #[] }
theorem fn_at (l : List ByteArray) (k : Nat) (h : k < l.length) : fn l k = l[k] := by unfold fn; rw [List.getD_eq_getElem?_getD, List.getElem?_eq_getElem h]; rfl
theorem cells_of {w : World} {A : Option Addr} {l : List ByteArray} {n : Nat} (hl : l.length = n) (r : Rd w w.heap.size A (sv l)) : 0 < n → ∃ x, A = some x ∧ x.block < w.heap.size ∧ ∀ i, i < n → w.cell? (x.add i) = some (.string (fn l i)) := by
  intro h
  obtain ⟨x, hx, hb, hc⟩ := r (by rw [sv_len]; omega)
  exact ⟨x, hx, hb, fun i hi => by rw [fn_at l i (by omega)]; exact hc i _ (sv_at l i (by omega))⟩
/-- The parts of the law's case. -/
structure Parts (form : Bool) (kb pre suf sub key tv q want : ByteArray) : Prop where
  pkey : key = if form then kb ++ ({ data := #[47] } : ByteArray) else kb ++ star
  ptv : tv = if form then pre else pre ++ star ++ suf
  pq : q = if form then pre ++ sub else pre ++ sub ++ suf
  pwant : want = if form then key ++ sub else kb ++ sub
theorem cnt0 (s : ByteArray) (w : World) (h : s.size ≤ 9223372036854775807) (hz : cntB 42 s = 0) : Calls Try.prog 13 #[.string s, .int .u8 42] w fun e w' => e = .returned (.int .i64 0) ∧ w = w' := by
  have := count_any13 42 s w h
  rw [hz] at this
  exact this
theorem cnt1 (s : ByteArray) (w : World) (h : s.size ≤ 9223372036854775807) : Calls Try.prog 13 #[.string s, .int .u8 42] w fun e w' => e = .returned (.int .i64 (cntB 42 s)) ∧ w = w' := count_any13 42 s w h
def Z (kb pre suf sub : ByteArray) : Prop := cntB 42 kb = 0 ∧ cntB 42 pre = 0 ∧ cntB 42 suf = 0 ∧ cntB 42 sub = 0
set_option maxRecDepth 20000 in
set_option maxHeartbeats 1000000 in
theorem main_false (A1 A2 : Option Addr) (n c1 c2 : Nat) (l1 l2 : List ByteArray) (kb pre suf sub key tv q want : ByteArray) (w : World) (hn : n ≤ 4096) (L1 : l1.length = n) (L2 : l2.length = n) (r1 : Rd w w.heap.size A1 (sv l1)) (r2 : Rd w w.heap.size A2 (sv l2)) (m1 : ∀ s ∈ l1, s.size ≤ 1048576) (m2 : ∀ s ∈ l2, s.size ≤ 1048576)
    (k1 : kb.size ≤ 131072) (k2 : pre.size ≤ 131072) (k3 : suf.size ≤ 131072) (k4 : sub.size ≤ 131072) (hz : Z kb pre suf sub) (hp : Parts false kb pre suf sub key tv q want)
    (hx : (∀ i, i < n → q ≠ fn l2 i) → ∀ (w' : World) (B C cap cc : Nat), w'.rowIs B 43 ((n + 1) * 10) (entt (up (fn l1) n key) (up (fn l2) n tv) (up (fun _ => 1) n 2) (n + 1)) → w'.rowIs C 43 10 (fldt key tv ((n : Nat) + 1) 2 1) → Calls Try.prog 17 #[.agg #[.pointer none, .pointer none, .pointer none, .int .u8 0], .string q, .agg #[.string { data := #[] }, .slice none 0 0, .slice (some ⟨B, 0, none⟩) (n + 1) cap, .slice (some ⟨C, 0, none⟩) 1 cc, .int .i32 0, .int .i32 0, .int .u8 3], .map none] w' fun e w'' => e = .returned (.tuple #[.bool true, .string want, .agg #[.int .i32 ((n : Nat) + 1), .int .i32 2]]) ∧ Below w'.heap.size w' w'')
    (hy : Calls Try.prog 12 #[.slice A1 n c1, .slice A2 n c2, .string kb, .string pre, .string suf, .string sub, .bool false] w (Bd True w)) :
    Calls Try.prog 4 #[.slice A1 n c1, .slice A2 n c2, .string kb, .string pre, .string suf, .string sub, .bool false] w fun e w' => e = .returned (.bool true) ∧ Below w.heap.size w w' := by
  have HY := Lib.hid hy
  obtain ⟨p1, p2, p3, p4⟩ := hp
  simp only [if_false, Bool.false_eq_true] at p1 p2 p3 p4
  have PS := Lib.hid (And.intro p1 (And.intro p2 (And.intro p3 p4)))
  have F6 := Lib.hid (flat6 (kb ++ pre ++ suf ++ sub) A1 A2 n c1 n c2 l1 l2 w (by unfold maxLen; simp only [ByteArray.size_append]; omega) L1 L2 (by unfold maxLen; omega) (by unfold maxLen; omega) r1 r2 m1 m2)
  have R1 := Lib.hid r1; have R2 := Lib.hid r2; have HL1 := Lib.hid L1; have HL2 := Lib.hid L2; have M1 := Lib.hid m1
  obtain ⟨z1, z2, z3, z4⟩ := hz
  have CK := Lib.hid (fun w' => cnt0 kb w' (by omega) z1)
  have CP := Lib.hid (fun w' => cnt0 pre w' (by omega) z2)
  have CS := Lib.hid (fun w' => cnt0 suf w' (by omega) z3)
  have CB := Lib.hid (fun w' => cnt0 sub w' (by omega) z4)
  have HX := Lib.hid hx
  have zq : q.size ≤ 524288 := by rw [p3]; simp only [ByteArray.size_append]; omega
  have zk : key.size ≤ 131073 := by rw [p1, ByteArray.size_append]; show _ + 1 ≤ _; omega
  have e2 := p2.symm
  have e1 := p1.symm; have e3 := p3.symm; have e4 := p4.symm
  unfold star at e1 e2
  clear hy r1 r2 L1 L2 m1 m2 z1 z2 z3 z4 hx p1 p2 p3 p4
  go_enter Try.func4, Try.ntmps4
  go_wp2_with (fail)
  refine HY.out.mono ?_
  rintro e w5 ⟨b5, rfl, _, rfl⟩
  go_wp2_with (fail)
  · go_ret
    exact ⟨rfl, Below.refl _ _⟩
  refine F6.out.mono ?_
  rintro e w6 ⟨b6, rfl, _, hb6⟩
  go_wp2_with (fail)
  · go_ret
    exact ⟨rfl, hb6⟩
  refine (plain7 A1 n c1 l1 w6 HL1.out hn (R1.out.later hb6) M1.out).mono ?_
  rintro e w7 ⟨b7, rfl, _, rfl⟩
  have HB6 := Lib.hid hb6
  clear hb6
  go_wp2_with (first | (go_at_call 13; first | ((with_reducible refine (CK.out _).mono ?_); rintro e w7 ⟨rfl, rfl⟩) | ((with_reducible refine (CP.out _).mono ?_); rintro e w7 ⟨rfl, rfl⟩) | ((with_reducible refine (CS.out _).mono ?_); rintro e w7 ⟨rfl, rfl⟩) | ((with_reducible refine (CB.out _).mono ?_); rintro e w7 ⟨rfl, rfl⟩)) | fail)
  · go_ret
    exact ⟨rfl, HB6.out⟩
  clear e1 e2 e3 e4
  have hmk : ∀ w : World, (Instr.makeSlice 26 (.int .i64 ((n : Int) + 1)) (.int .i64 ((n : Int) + 1))).run Try.prog w = .ok (.slice (some ⟨w.heap.size, 0, none⟩) (n + 1) (n + 1)) (w.alloc (.cells (madeCells #[.string { data := #[] }, .string { data := #[] }, .slice none 0 0, .slice none 0 0, .slice none 0 0, .int .i32 0, .int .i32 0, .int .u8 0, .int .i32 0, .int .i32 0] ((n + 1) * 10)) 43)) := fun w => make_more (n + 1) (by omega) w
  have HMK := Lib.hid hmk
  clear hmk
  go_loop [19] (fun i => ∃ k : Nat, k ≤ n ∧ i = .int .i64 k ∧ Hid (∀ i, i < k → q ≠ fn l2 i)) (fun i => n - (intOf i).toNat)
  case atStart => exact ⟨0, by omega, rfl, Lib.hid (fun i h => absurd h (Nat.not_lt_zero _))⟩
  case round =>
  obtain ⟨k, hk, rfl, HF⟩ := hrel
  by_cases hkn : k < n
  · obtain ⟨x, rfl, hxb, cx⟩ := (R2.out.below HB6.out).at_ (sv_at l2 k (by rw [HL2.out]; omega))
    have ck : w6.cell? (x.add k) = some (.string (fn l2 k)) := by rw [fn_at l2 k (by rw [HL2.out]; omega)]; exact cx
    clear cx
    have kn : (k : Int) < (n : Int) := by omega
    have E := eq_toList (fn l2 k) q
    by_cases hqk : q = fn l2 k
    · rw [decide_eq_true hqk.symm] at E
      clear hqk
      go_wp2
      go_ret
      exact ⟨rfl, HB6.out⟩
    · rw [decide_eq_false (fun e => hqk e.symm)] at E
      have HQ := Lib.hid hqk
      clear hqk
      go_wp2
      go_round
      case rel => exact ⟨k + 1, by omega, by go_num, Lib.hid (fun i h => by
        rcases Nat.lt_or_ge i k with g | g
        · exact HF.out i g
        · obtain rfl : i = k := by omega
          exact HQ.out)⟩
      case measure => simp [intOf]; omega
  have hke : k = n := by omega
  have HF' : Hid (∀ i, i < n → q ≠ fn l2 i) := Lib.hid (by rw [← hke]; exact HF.out)
  clear HF
  rw [hke]
  clear hke hkn hk
  have hmk := HMK.out
  have hw : wrap64 ((n : Int) + 1) = (n : Int) + 1 := by unfold wrap64; omega
  clear HMK
  go_wp2
  clear hmk
  have b6 := HB6.out.size
  go_loopw [21] (fun i wr => ∃ k : Nat, k ≤ n ∧ i = .int .i64 k ∧ wr.rowIs w6.heap.size 43 ((n + 1) * 10) (entt (fn l1) (fn l2) (fun _ => 1) k) ∧ Below w6.heap.size w6 wr) (fun i _ => n - (intOf i).toNat)
  case atStart =>
    refine ⟨0, by omega, rfl, ?_, (Below.refl _ _).alloc (Nat.le_refl _) _⟩
    have := World.rowIs_alloc w6 (madeCells #[.string { data := #[] }, .string { data := #[] }, .slice none 0 0, .slice none 0 0, .slice none 0 0, .int .i32 0, .int .i32 0, .int .u8 0, .int .i32 0, .int .i32 0] ((n + 1) * 10)) 43 (entt (fn l1) (fn l2) (fun _ => 1) 0) (fun i hi => zero_cellt (fn l1) (fn l2) (fun _ => 1) _ i (by rw [size_madeCells] at hi; exact hi))
    rw [size_madeCells] at this
    exact this
  case round =>
  obtain ⟨k, hk, rfl, HR, hbel⟩ := hrel
  by_cases hlt : k < n
  · obtain ⟨x, rfl, hxb, hxc⟩ := cells_of HL1.out (R1.out.later HB6.out) (by omega)
    obtain ⟨y, rfl, hyb, hyc⟩ := cells_of HL2.out (R2.out.later HB6.out) (by omega)
    have ck : wr.cell? (x.add k) = some (.string (fn l1 k)) := by rw [hbel.cell (by rw [add_block]; exact hxb)]; exact hxc k hlt
    have cv : wr.cell? (y.add k) = some (.string (fn l2 k)) := by rw [hbel.cell (by rw [add_block]; exact hyb)]; exact hyc k hlt
    have hwz := hbel.size
    have hwg : w6.heap.size < wr.heap.size := HR.lt
    have x1 : (0 : Int) ≤ (k : Int) := by omega
    have x2 : (k : Int) < (n : Int) := by omega
    have x3 : (k : Int) < (n : Int) + 1 := by omega
    have acc : Below wr.heap.size wr wr.drew := (Below.refl _ _).drew
    clear hxc hyc
    go_wp2
    go_region_held3 (fun w' => w'.cell? (x.add k) = some (.string (fn l1 k)) ∧ w'.cell? (y.add k) = some (.string (fn l2 k)))
      (first | go_keep | (go_split_ands; refine ⟨?_, ?_⟩ <;> (rw [acc.cell (by rw [add_block]; omega)]; assumption)) | (go_split_ands; refine ⟨?_, ?_⟩ <;> (rw [(ten_below _ _ _ _ _ _ _ _ _ _ _ _ _).cell (by rw [add_block]; omega)]; assumption)))
      ((first | (go_at_call 15; refine (strEntry _ _ _ _).mono ?_; rintro e w2 ⟨rfl, hb2⟩; have acc := below_join acc acc.size hb2; clear hb2) | (go_at_call 14; refine (mapEntry _ _ _ _ _).mono ?_; rintro e w3 ⟨rfl, hb3⟩; have acc := below_join acc acc.size hb3; clear hb3; have HR3 := row_keep HR acc (Nat.le_refl _); have c0 := HR3.cell (i := k * 10) (by omega); have c1 := HR3.cell (i := k * 10 + 1) (by omega); have c2 := HR3.cell (i := k * 10 + 2) (by omega); have c3 := HR3.cell (i := k * 10 + 3) (by omega); have c4 := HR3.cell (i := k * 10 + 4) (by omega); have c5 := HR3.cell (i := k * 10 + 5) (by omega); have c6 := HR3.cell (i := k * 10 + 6) (by omega); have c7 := HR3.cell (i := k * 10 + 7) (by omega); have c8 := HR3.cell (i := k * 10 + 8) (by omega); have c9 := HR3.cell (i := k * 10 + 9) (by omega); have f0 := HR3.frozen (k * 10); have f1 := HR3.frozen (k * 10 + 1); have f2 := HR3.frozen (k * 10 + 2); have f3 := HR3.frozen (k * 10 + 3); have f4 := HR3.frozen (k * 10 + 4); have f5 := HR3.frozen (k * 10 + 5); have f6 := HR3.frozen (k * 10 + 6); have f7 := HR3.frozen (k * 10 + 7); have f8 := HR3.frozen (k * 10 + 8); have f9 := HR3.frozen (k * 10 + 9); have HR4 := Lib.hid HR3; clear HR3)))
    have T1 := Lib.hid ((ten_row w3 w6.heap.size k 43 ((n + 1) * 10) _ (.string (fn l1 k)) (.string (fn l2 k)) (.slice none 0 0) (.slice none 0 0) (.slice none 0 0) (.int .i32 ((k : Nat) + 1)) (.int .i32 1) (.int .u8 1) (.int .i32 0) (.int .i32 0) HR4.out).congr (fun i _ => entt_step (fn l1) (fn l2) (fun _ => 1) k i))
    have T2 := Lib.hid ((hbel.trans (acc.mono hwz)).trans (ten_below w3 w6.heap.size k (.string (fn l1 k)) (.string (fn l2 k)) (.slice none 0 0) (.slice none 0 0) (.slice none 0 0) (.int .i32 ((k : Nat) + 1)) (.int .i32 1) (.int .u8 1) (.int .i32 0) (.int .i32 0)))
    clear c0 c1 c2 c3 c4 c5 c6 c7 c8 c9 f0 f1 f2 f3 f4 f5 f6 f7 f8 f9 HR hbel acc HR4 ck cv
    go_wp2
    go_roundw
    case rel => exact ⟨k + 1, by omega, by go_num, T1.out, T2.out⟩
    case measure => simp [intOf]; omega
  have hke : k = n := by omega
  rw [hke] at HR ⊢
  clear hke hlt hk
  have hwg : w6.heap.size < wr.heap.size := HR.lt
  have T1 := Lib.hid HR
  have T2 := Lib.hid hbel
  clear HR hbel
  go_wp2_with (fail)
  refine (strEntry _ _ _ _).mono ?_
  rintro e w10 ⟨rfl, hb10⟩
  go_wp2_with (fail)
  refine (mapEntry _ _ _ _ _).mono ?_
  rintro e w11 ⟨rfl, hb11⟩
  have B11 := below_join T2.out T2.out.size (below_join hb10 hb10.size hb11)
  have HR11 := Lib.hid (row_keep (row_keep T1.out hb10 (Nat.le_refl _)) hb11 (Nat.le_refl _))
  have HB11 := Lib.hid B11
  have hwg11 : w6.heap.size < w11.heap.size := HR11.out.lt
  clear B11 hb10 hb11
  have c0 := HR11.out.cell (i := n * 10) (by omega)
  have f0 := HR11.out.frozen (n * 10)
  have c1 := HR11.out.cell (i := n * 10 + 1) (by omega)
  have f1 := HR11.out.frozen (n * 10 + 1)
  have c2 := HR11.out.cell (i := n * 10 + 2) (by omega)
  have f2 := HR11.out.frozen (n * 10 + 2)
  have c3 := HR11.out.cell (i := n * 10 + 3) (by omega)
  have f3 := HR11.out.frozen (n * 10 + 3)
  have c4 := HR11.out.cell (i := n * 10 + 4) (by omega)
  have f4 := HR11.out.frozen (n * 10 + 4)
  have c5 := HR11.out.cell (i := n * 10 + 5) (by omega)
  have f5 := HR11.out.frozen (n * 10 + 5)
  have c6 := HR11.out.cell (i := n * 10 + 6) (by omega)
  have f6 := HR11.out.frozen (n * 10 + 6)
  have c7 := HR11.out.cell (i := n * 10 + 7) (by omega)
  have f7 := HR11.out.frozen (n * 10 + 7)
  have c8 := HR11.out.cell (i := n * 10 + 8) (by omega)
  have f8 := HR11.out.frozen (n * 10 + 8)
  have c9 := HR11.out.cell (i := n * 10 + 9) (by omega)
  have f9 := HR11.out.frozen (n * 10 + 9)
  have xn1 : (0 : Int) ≤ (n : Int) := by omega
  have xn2 : (n : Int) < (n : Int) + 1 := by omega
  go_wp2_with (fail)
  have T3 := (ten_row w11 w6.heap.size n 43 ((n + 1) * 10) _ (.string key) (.string tv) (.slice none 0 0) (.slice none 0 0) (.slice none 0 0) (.int .i32 ((n : Nat) + 1)) (.int .i32 2) (.int .u8 1) (.int .i32 0) (.int .i32 0) HR11.out).congr (fun i _ => entt_up (fn l1) (fn l2) (fun _ => 1) n key tv 2 i)
  have BX := HB11.out.trans (ten_below w11 w6.heap.size n (.string key) (.string tv) (.slice none 0 0) (.slice none 0 0) (.slice none 0 0) (.int .i32 ((n : Nat) + 1)) (.int .i32 2) (.int .u8 1) (.int .i32 0) (.int .i32 0))
  have SZ : (((((((((((w11.setCell ⟨w6.heap.size, n * 10, none⟩ (.string key)).setCell ⟨w6.heap.size, n * 10 + 1, none⟩ (.string tv)).setCell ⟨w6.heap.size, n * 10 + 2, none⟩ (.slice none 0 0)).setCell ⟨w6.heap.size, n * 10 + 3, none⟩ (.slice none 0 0)).setCell ⟨w6.heap.size, n * 10 + 4, none⟩ (.slice none 0 0)).setCell ⟨w6.heap.size, n * 10 + 5, none⟩ (.int .i32 ((n : Nat) + 1))).setCell ⟨w6.heap.size, n * 10 + 6, none⟩ (.int .i32 2)).setCell ⟨w6.heap.size, n * 10 + 7, none⟩ (.int .u8 1)).setCell ⟨w6.heap.size, n * 10 + 8, none⟩ (.int .i32 0)).setCell ⟨w6.heap.size, n * 10 + 9, none⟩ (.int .i32 0))).heap.size = w11.heap.size := by simp only [World.size_setCell]
  generalize ((((((((((w11.setCell ⟨w6.heap.size, n * 10, none⟩ (.string key)).setCell ⟨w6.heap.size, n * 10 + 1, none⟩ (.string tv)).setCell ⟨w6.heap.size, n * 10 + 2, none⟩ (.slice none 0 0)).setCell ⟨w6.heap.size, n * 10 + 3, none⟩ (.slice none 0 0)).setCell ⟨w6.heap.size, n * 10 + 4, none⟩ (.slice none 0 0)).setCell ⟨w6.heap.size, n * 10 + 5, none⟩ (.int .i32 ((n : Nat) + 1))).setCell ⟨w6.heap.size, n * 10 + 6, none⟩ (.int .i32 2)).setCell ⟨w6.heap.size, n * 10 + 7, none⟩ (.int .u8 1)).setCell ⟨w6.heap.size, n * 10 + 8, none⟩ (.int .i32 0)).setCell ⟨w6.heap.size, n * 10 + 9, none⟩ (.int .i32 0)) = wn at T3 BX SZ ⊢
  have CX := rowx (wn.alloc (.cells #[.string key, .string tv, .slice none 0 0, .slice none 0 0, .slice none 0 0, .int .i32 ((n : Nat) + 1), .int .i32 2, .int .u8 1, .int .i32 0, .int .i32 0] 43)) key tv ((n : Nat) + 1) 2
  rw [World.size_alloc, SZ] at CX
  have BY := (BX.alloc BX.size (.cells #[.string key, .string tv, .slice none 0 0, .slice none 0 0, .slice none 0 0, .int .i32 ((n : Nat) + 1), .int .i32 2, .int .u8 1, .int .i32 0, .int .i32 0] 43)).alloc (by rw [World.size_alloc]; exact Nat.le_succ_of_le BX.size) (.cells #[.string key, .string tv, .slice none 0 0, .slice none 0 0, .slice none 0 0, .int .i32 ((n : Nat) + 1), .int .i32 2, .int .u8 1, .int .i32 0, .int .i32 0] 43)
  refine (IeA.newObj _ _ _ _ _ _ _ _ rfl rfl _).mono ?_
  rintro e w12 ⟨rfl, hb12⟩
  have T4 := Lib.hid (row_keep ((T3.alloc _).alloc _) hb12 (Nat.le_refl _))
  have C4 := Lib.hid (row_keep CX hb12 (Nat.le_refl _))
  have B4 := Lib.hid (below_join BY BY.size hb12)
  clear T3 CX BX BY SZ hb12 c0 f0 c1 f1 c2 f2 c3 f3 c4 f4 c5 f5 c6 f6 c7 f7 c8 f8 c9 f9
  go_wp2_with (fail)
  refine (zz9x q want key tv w6.heap.size (w11.heap.size + 1) (n + 1) n (n + 1) 1 _ _ _ _ (T4.out.alloc _) (C4.out.alloc _) (fun w' g1 g2 => HX.out HF'.out w' _ _ _ _ g1 g2)).mono ?_
  rintro e w13 ⟨rfl, hb13⟩
  have B5 := Lib.hid (HB6.out.trans ((below_join (B4.out.alloc B4.out.size _) (by rw [World.size_alloc]; exact Nat.le_succ_of_le B4.out.size) hb13).mono b6))
  clear hb13
  go_wp2
  go_ret
  exact ⟨by simp, B5.out.alloc B5.out.size _⟩
set_option maxRecDepth 20000 in
set_option maxHeartbeats 1000000 in
theorem main_true (A1 A2 : Option Addr) (n c1 c2 : Nat) (l1 l2 : List ByteArray) (kb pre suf sub key tv q want : ByteArray) (w : World) (hn : n ≤ 4096) (L1 : l1.length = n) (L2 : l2.length = n) (r1 : Rd w w.heap.size A1 (sv l1)) (r2 : Rd w w.heap.size A2 (sv l2)) (m1 : ∀ s ∈ l1, s.size ≤ 1048576) (m2 : ∀ s ∈ l2, s.size ≤ 1048576)
    (k1 : kb.size ≤ 131072) (k2 : pre.size ≤ 131072) (k3 : suf.size ≤ 131072) (k4 : sub.size ≤ 131072) (hz : Z kb pre suf sub) (hp : Parts true kb pre suf sub key tv q want)
    (hx : (∀ i, i < n → q ≠ fn l2 i) → ∀ (w' : World) (B C cap cc : Nat), w'.rowIs B 43 ((n + 1) * 10) (entt (up (fn l1) n key) (up (fn l2) n tv) (up (fun _ => 1) n 2) (n + 1)) → w'.rowIs C 43 10 (fldt key tv ((n : Nat) + 1) 2 1) → Calls Try.prog 17 #[.agg #[.pointer none, .pointer none, .pointer none, .int .u8 0], .string q, .agg #[.string { data := #[] }, .slice none 0 0, .slice (some ⟨B, 0, none⟩) (n + 1) cap, .slice (some ⟨C, 0, none⟩) 1 cc, .int .i32 0, .int .i32 0, .int .u8 3], .map none] w' fun e w'' => e = .returned (.tuple #[.bool true, .string want, .agg #[.int .i32 ((n : Nat) + 1), .int .i32 2]]) ∧ Below w'.heap.size w' w'')
    (hy : Calls Try.prog 12 #[.slice A1 n c1, .slice A2 n c2, .string kb, .string pre, .string suf, .string sub, .bool true] w (Bd True w)) :
    Calls Try.prog 4 #[.slice A1 n c1, .slice A2 n c2, .string kb, .string pre, .string suf, .string sub, .bool true] w fun e w' => e = .returned (.bool true) ∧ Below w.heap.size w w' := by
  have HY := Lib.hid hy
  obtain ⟨p1, p2, p3, p4⟩ := hp
  simp only [if_true] at p1 p2 p3 p4
  have PS := Lib.hid (And.intro p1 (And.intro p2 (And.intro p3 p4)))
  have F6 := Lib.hid (flat6 (kb ++ pre ++ suf ++ sub) A1 A2 n c1 n c2 l1 l2 w (by unfold maxLen; simp only [ByteArray.size_append]; omega) L1 L2 (by unfold maxLen; omega) (by unfold maxLen; omega) r1 r2 m1 m2)
  have R1 := Lib.hid r1; have R2 := Lib.hid r2; have HL1 := Lib.hid L1; have HL2 := Lib.hid L2; have M1 := Lib.hid m1
  obtain ⟨z1, z2, z3, z4⟩ := hz
  have CK := Lib.hid (fun w' => cnt0 kb w' (by omega) z1)
  have CP := Lib.hid (fun w' => cnt0 pre w' (by omega) z2)
  have CS := Lib.hid (fun w' => cnt0 suf w' (by omega) z3)
  have CB := Lib.hid (fun w' => cnt0 sub w' (by omega) z4)
  have HX := Lib.hid hx
  have zq : q.size ≤ 524288 := by rw [p3]; simp only [ByteArray.size_append]; omega
  have zk : key.size ≤ 131073 := by rw [p1, ByteArray.size_append]; show _ + 1 ≤ _; omega
  subst p2
  have e1 := p1.symm; have e3 := p3.symm; have e4 := p4.symm
  
  clear hy r1 r2 L1 L2 m1 m2 z1 z2 z3 z4 hx p1 p3 p4
  go_enter Try.func4, Try.ntmps4
  go_wp2_with (fail)
  refine HY.out.mono ?_
  rintro e w5 ⟨b5, rfl, _, rfl⟩
  go_wp2_with (fail)
  · go_ret
    exact ⟨rfl, Below.refl _ _⟩
  refine F6.out.mono ?_
  rintro e w6 ⟨b6, rfl, _, hb6⟩
  go_wp2_with (fail)
  · go_ret
    exact ⟨rfl, hb6⟩
  refine (plain7 A1 n c1 l1 w6 HL1.out hn (R1.out.later hb6) M1.out).mono ?_
  rintro e w7 ⟨b7, rfl, _, rfl⟩
  have HB6 := Lib.hid hb6
  clear hb6
  go_wp2_with (first | (go_at_call 13; first | ((with_reducible refine (CK.out _).mono ?_); rintro e w7 ⟨rfl, rfl⟩) | ((with_reducible refine (CP.out _).mono ?_); rintro e w7 ⟨rfl, rfl⟩) | ((with_reducible refine (CS.out _).mono ?_); rintro e w7 ⟨rfl, rfl⟩) | ((with_reducible refine (CB.out _).mono ?_); rintro e w7 ⟨rfl, rfl⟩)) | fail)
  · go_ret
    exact ⟨rfl, HB6.out⟩
  clear e1 e3 e4
  have hmk : ∀ w : World, (Instr.makeSlice 26 (.int .i64 ((n : Int) + 1)) (.int .i64 ((n : Int) + 1))).run Try.prog w = .ok (.slice (some ⟨w.heap.size, 0, none⟩) (n + 1) (n + 1)) (w.alloc (.cells (madeCells #[.string { data := #[] }, .string { data := #[] }, .slice none 0 0, .slice none 0 0, .slice none 0 0, .int .i32 0, .int .i32 0, .int .u8 0, .int .i32 0, .int .i32 0] ((n + 1) * 10)) 43)) := fun w => make_more (n + 1) (by omega) w
  have HMK := Lib.hid hmk
  clear hmk
  go_loop [19] (fun i => ∃ k : Nat, k ≤ n ∧ i = .int .i64 k ∧ Hid (∀ i, i < k → q ≠ fn l2 i)) (fun i => n - (intOf i).toNat)
  case atStart => exact ⟨0, by omega, rfl, Lib.hid (fun i h => absurd h (Nat.not_lt_zero _))⟩
  case round =>
  obtain ⟨k, hk, rfl, HF⟩ := hrel
  by_cases hkn : k < n
  · obtain ⟨x, rfl, hxb, cx⟩ := (R2.out.below HB6.out).at_ (sv_at l2 k (by rw [HL2.out]; omega))
    have ck : w6.cell? (x.add k) = some (.string (fn l2 k)) := by rw [fn_at l2 k (by rw [HL2.out]; omega)]; exact cx
    clear cx
    have kn : (k : Int) < (n : Int) := by omega
    have E := eq_toList (fn l2 k) q
    by_cases hqk : q = fn l2 k
    · rw [decide_eq_true hqk.symm] at E
      clear hqk
      go_wp2
      go_ret
      exact ⟨rfl, HB6.out⟩
    · rw [decide_eq_false (fun e => hqk e.symm)] at E
      have HQ := Lib.hid hqk
      clear hqk
      go_wp2
      go_round
      case rel => exact ⟨k + 1, by omega, by go_num, Lib.hid (fun i h => by
        rcases Nat.lt_or_ge i k with g | g
        · exact HF.out i g
        · obtain rfl : i = k := by omega
          exact HQ.out)⟩
      case measure => simp [intOf]; omega
  have hke : k = n := by omega
  have HF' : Hid (∀ i, i < n → q ≠ fn l2 i) := Lib.hid (by rw [← hke]; exact HF.out)
  clear HF
  rw [hke]
  clear hke hkn hk
  have hmk := HMK.out
  have hw : wrap64 ((n : Int) + 1) = (n : Int) + 1 := by unfold wrap64; omega
  clear HMK
  go_wp2
  clear hmk
  have b6 := HB6.out.size
  go_loopw [21] (fun i wr => ∃ k : Nat, k ≤ n ∧ i = .int .i64 k ∧ wr.rowIs w6.heap.size 43 ((n + 1) * 10) (entt (fn l1) (fn l2) (fun _ => 1) k) ∧ Below w6.heap.size w6 wr) (fun i _ => n - (intOf i).toNat)
  case atStart =>
    refine ⟨0, by omega, rfl, ?_, (Below.refl _ _).alloc (Nat.le_refl _) _⟩
    have := World.rowIs_alloc w6 (madeCells #[.string { data := #[] }, .string { data := #[] }, .slice none 0 0, .slice none 0 0, .slice none 0 0, .int .i32 0, .int .i32 0, .int .u8 0, .int .i32 0, .int .i32 0] ((n + 1) * 10)) 43 (entt (fn l1) (fn l2) (fun _ => 1) 0) (fun i hi => zero_cellt (fn l1) (fn l2) (fun _ => 1) _ i (by rw [size_madeCells] at hi; exact hi))
    rw [size_madeCells] at this
    exact this
  case round =>
  obtain ⟨k, hk, rfl, HR, hbel⟩ := hrel
  by_cases hlt : k < n
  · obtain ⟨x, rfl, hxb, hxc⟩ := cells_of HL1.out (R1.out.later HB6.out) (by omega)
    obtain ⟨y, rfl, hyb, hyc⟩ := cells_of HL2.out (R2.out.later HB6.out) (by omega)
    have ck : wr.cell? (x.add k) = some (.string (fn l1 k)) := by rw [hbel.cell (by rw [add_block]; exact hxb)]; exact hxc k hlt
    have cv : wr.cell? (y.add k) = some (.string (fn l2 k)) := by rw [hbel.cell (by rw [add_block]; exact hyb)]; exact hyc k hlt
    have hwz := hbel.size
    have hwg : w6.heap.size < wr.heap.size := HR.lt
    have x1 : (0 : Int) ≤ (k : Int) := by omega
    have x2 : (k : Int) < (n : Int) := by omega
    have x3 : (k : Int) < (n : Int) + 1 := by omega
    have acc : Below wr.heap.size wr wr.drew := (Below.refl _ _).drew
    clear hxc hyc
    go_wp2
    go_region_held3 (fun w' => w'.cell? (x.add k) = some (.string (fn l1 k)) ∧ w'.cell? (y.add k) = some (.string (fn l2 k)))
      (first | go_keep | (go_split_ands; refine ⟨?_, ?_⟩ <;> (rw [acc.cell (by rw [add_block]; omega)]; assumption)) | (go_split_ands; refine ⟨?_, ?_⟩ <;> (rw [(ten_below _ _ _ _ _ _ _ _ _ _ _ _ _).cell (by rw [add_block]; omega)]; assumption)))
      ((first | (go_at_call 15; refine (strEntry _ _ _ _).mono ?_; rintro e w2 ⟨rfl, hb2⟩; have acc := below_join acc acc.size hb2; clear hb2) | (go_at_call 14; refine (mapEntry _ _ _ _ _).mono ?_; rintro e w3 ⟨rfl, hb3⟩; have acc := below_join acc acc.size hb3; clear hb3; have HR3 := row_keep HR acc (Nat.le_refl _); have c0 := HR3.cell (i := k * 10) (by omega); have c1 := HR3.cell (i := k * 10 + 1) (by omega); have c2 := HR3.cell (i := k * 10 + 2) (by omega); have c3 := HR3.cell (i := k * 10 + 3) (by omega); have c4 := HR3.cell (i := k * 10 + 4) (by omega); have c5 := HR3.cell (i := k * 10 + 5) (by omega); have c6 := HR3.cell (i := k * 10 + 6) (by omega); have c7 := HR3.cell (i := k * 10 + 7) (by omega); have c8 := HR3.cell (i := k * 10 + 8) (by omega); have c9 := HR3.cell (i := k * 10 + 9) (by omega); have f0 := HR3.frozen (k * 10); have f1 := HR3.frozen (k * 10 + 1); have f2 := HR3.frozen (k * 10 + 2); have f3 := HR3.frozen (k * 10 + 3); have f4 := HR3.frozen (k * 10 + 4); have f5 := HR3.frozen (k * 10 + 5); have f6 := HR3.frozen (k * 10 + 6); have f7 := HR3.frozen (k * 10 + 7); have f8 := HR3.frozen (k * 10 + 8); have f9 := HR3.frozen (k * 10 + 9); have HR4 := Lib.hid HR3; clear HR3)))
    have T1 := Lib.hid ((ten_row w3 w6.heap.size k 43 ((n + 1) * 10) _ (.string (fn l1 k)) (.string (fn l2 k)) (.slice none 0 0) (.slice none 0 0) (.slice none 0 0) (.int .i32 ((k : Nat) + 1)) (.int .i32 1) (.int .u8 1) (.int .i32 0) (.int .i32 0) HR4.out).congr (fun i _ => entt_step (fn l1) (fn l2) (fun _ => 1) k i))
    have T2 := Lib.hid ((hbel.trans (acc.mono hwz)).trans (ten_below w3 w6.heap.size k (.string (fn l1 k)) (.string (fn l2 k)) (.slice none 0 0) (.slice none 0 0) (.slice none 0 0) (.int .i32 ((k : Nat) + 1)) (.int .i32 1) (.int .u8 1) (.int .i32 0) (.int .i32 0)))
    clear c0 c1 c2 c3 c4 c5 c6 c7 c8 c9 f0 f1 f2 f3 f4 f5 f6 f7 f8 f9 HR hbel acc HR4 ck cv
    go_wp2
    go_roundw
    case rel => exact ⟨k + 1, by omega, by go_num, T1.out, T2.out⟩
    case measure => simp [intOf]; omega
  have hke : k = n := by omega
  rw [hke] at HR ⊢
  clear hke hlt hk
  have hwg : w6.heap.size < wr.heap.size := HR.lt
  have T1 := Lib.hid HR
  have T2 := Lib.hid hbel
  clear HR hbel
  go_wp2_with (fail)
  refine (strEntry _ _ _ _).mono ?_
  rintro e w10 ⟨rfl, hb10⟩
  go_wp2_with (fail)
  refine (mapEntry _ _ _ _ _).mono ?_
  rintro e w11 ⟨rfl, hb11⟩
  have B11 := below_join T2.out T2.out.size (below_join hb10 hb10.size hb11)
  have HR11 := Lib.hid (row_keep (row_keep T1.out hb10 (Nat.le_refl _)) hb11 (Nat.le_refl _))
  have HB11 := Lib.hid B11
  have hwg11 : w6.heap.size < w11.heap.size := HR11.out.lt
  clear B11 hb10 hb11
  have c0 := HR11.out.cell (i := n * 10) (by omega)
  have f0 := HR11.out.frozen (n * 10)
  have c1 := HR11.out.cell (i := n * 10 + 1) (by omega)
  have f1 := HR11.out.frozen (n * 10 + 1)
  have c2 := HR11.out.cell (i := n * 10 + 2) (by omega)
  have f2 := HR11.out.frozen (n * 10 + 2)
  have c3 := HR11.out.cell (i := n * 10 + 3) (by omega)
  have f3 := HR11.out.frozen (n * 10 + 3)
  have c4 := HR11.out.cell (i := n * 10 + 4) (by omega)
  have f4 := HR11.out.frozen (n * 10 + 4)
  have c5 := HR11.out.cell (i := n * 10 + 5) (by omega)
  have f5 := HR11.out.frozen (n * 10 + 5)
  have c6 := HR11.out.cell (i := n * 10 + 6) (by omega)
  have f6 := HR11.out.frozen (n * 10 + 6)
  have c7 := HR11.out.cell (i := n * 10 + 7) (by omega)
  have f7 := HR11.out.frozen (n * 10 + 7)
  have c8 := HR11.out.cell (i := n * 10 + 8) (by omega)
  have f8 := HR11.out.frozen (n * 10 + 8)
  have c9 := HR11.out.cell (i := n * 10 + 9) (by omega)
  have f9 := HR11.out.frozen (n * 10 + 9)
  have xn1 : (0 : Int) ≤ (n : Int) := by omega
  have xn2 : (n : Int) < (n : Int) + 1 := by omega
  go_wp2_with (fail)
  have T3 := (ten_row w11 w6.heap.size n 43 ((n + 1) * 10) _ (.string key) (.string tv) (.slice none 0 0) (.slice none 0 0) (.slice none 0 0) (.int .i32 ((n : Nat) + 1)) (.int .i32 2) (.int .u8 1) (.int .i32 0) (.int .i32 0) HR11.out).congr (fun i _ => entt_up (fn l1) (fn l2) (fun _ => 1) n key tv 2 i)
  have BX := HB11.out.trans (ten_below w11 w6.heap.size n (.string key) (.string tv) (.slice none 0 0) (.slice none 0 0) (.slice none 0 0) (.int .i32 ((n : Nat) + 1)) (.int .i32 2) (.int .u8 1) (.int .i32 0) (.int .i32 0))
  have SZ : (((((((((((w11.setCell ⟨w6.heap.size, n * 10, none⟩ (.string key)).setCell ⟨w6.heap.size, n * 10 + 1, none⟩ (.string tv)).setCell ⟨w6.heap.size, n * 10 + 2, none⟩ (.slice none 0 0)).setCell ⟨w6.heap.size, n * 10 + 3, none⟩ (.slice none 0 0)).setCell ⟨w6.heap.size, n * 10 + 4, none⟩ (.slice none 0 0)).setCell ⟨w6.heap.size, n * 10 + 5, none⟩ (.int .i32 ((n : Nat) + 1))).setCell ⟨w6.heap.size, n * 10 + 6, none⟩ (.int .i32 2)).setCell ⟨w6.heap.size, n * 10 + 7, none⟩ (.int .u8 1)).setCell ⟨w6.heap.size, n * 10 + 8, none⟩ (.int .i32 0)).setCell ⟨w6.heap.size, n * 10 + 9, none⟩ (.int .i32 0))).heap.size = w11.heap.size := by simp only [World.size_setCell]
  generalize ((((((((((w11.setCell ⟨w6.heap.size, n * 10, none⟩ (.string key)).setCell ⟨w6.heap.size, n * 10 + 1, none⟩ (.string tv)).setCell ⟨w6.heap.size, n * 10 + 2, none⟩ (.slice none 0 0)).setCell ⟨w6.heap.size, n * 10 + 3, none⟩ (.slice none 0 0)).setCell ⟨w6.heap.size, n * 10 + 4, none⟩ (.slice none 0 0)).setCell ⟨w6.heap.size, n * 10 + 5, none⟩ (.int .i32 ((n : Nat) + 1))).setCell ⟨w6.heap.size, n * 10 + 6, none⟩ (.int .i32 2)).setCell ⟨w6.heap.size, n * 10 + 7, none⟩ (.int .u8 1)).setCell ⟨w6.heap.size, n * 10 + 8, none⟩ (.int .i32 0)).setCell ⟨w6.heap.size, n * 10 + 9, none⟩ (.int .i32 0)) = wn at T3 BX SZ ⊢
  have CX := rowx (wn.alloc (.cells #[.string key, .string tv, .slice none 0 0, .slice none 0 0, .slice none 0 0, .int .i32 ((n : Nat) + 1), .int .i32 2, .int .u8 1, .int .i32 0, .int .i32 0] 43)) key tv ((n : Nat) + 1) 2
  rw [World.size_alloc, SZ] at CX
  have BY := (BX.alloc BX.size (.cells #[.string key, .string tv, .slice none 0 0, .slice none 0 0, .slice none 0 0, .int .i32 ((n : Nat) + 1), .int .i32 2, .int .u8 1, .int .i32 0, .int .i32 0] 43)).alloc (by rw [World.size_alloc]; exact Nat.le_succ_of_le BX.size) (.cells #[.string key, .string tv, .slice none 0 0, .slice none 0 0, .slice none 0 0, .int .i32 ((n : Nat) + 1), .int .i32 2, .int .u8 1, .int .i32 0, .int .i32 0] 43)
  refine (IeA.newObj _ _ _ _ _ _ _ _ rfl rfl _).mono ?_
  rintro e w12 ⟨rfl, hb12⟩
  have T4 := Lib.hid (row_keep ((T3.alloc _).alloc _) hb12 (Nat.le_refl _))
  have C4 := Lib.hid (row_keep CX hb12 (Nat.le_refl _))
  have B4 := Lib.hid (below_join BY BY.size hb12)
  clear T3 CX BX BY SZ hb12 c0 f0 c1 f1 c2 f2 c3 f3 c4 f4 c5 f5 c6 f6 c7 f7 c8 f8 c9 f9
  go_wp2_with (fail)
  refine (zz9x q want key tv w6.heap.size (w11.heap.size + 1) (n + 1) n (n + 1) 1 _ _ _ _ (T4.out.alloc _) (C4.out.alloc _) (fun w' g1 g2 => HX.out HF'.out w' _ _ _ _ g1 g2)).mono ?_
  rintro e w13 ⟨rfl, hb13⟩
  have B5 := Lib.hid (HB6.out.trans ((below_join (B4.out.alloc B4.out.size _) (by rw [World.size_alloc]; exact Nat.le_succ_of_le B4.out.size) hb13).mono b6))
  clear hb13
  go_wp2
  go_ret
  exact ⟨by simp, B5.out.alloc B5.out.size _⟩
set_option maxRecDepth 20000 in
set_option maxHeartbeats 2000000 in
theorem stars (A1 A2 : Option Addr) (n c1 c2 : Nat) (l1 l2 : List ByteArray) (kb pre suf sub : ByteArray) (form : Bool) (w : World) (hn : n ≤ 4096) (L1 : l1.length = n) (L2 : l2.length = n) (r1 : Rd w w.heap.size A1 (sv l1)) (r2 : Rd w w.heap.size A2 (sv l2)) (m1 : ∀ s ∈ l1, s.size ≤ 1048576) (m2 : ∀ s ∈ l2, s.size ≤ 1048576)
    (k1 : kb.size ≤ 131072) (k2 : pre.size ≤ 131072) (k3 : suf.size ≤ 131072) (k4 : sub.size ≤ 131072) (hz : ¬ Z kb pre suf sub) (hy : Calls Try.prog 12 #[.slice A1 n c1, .slice A2 n c2, .string kb, .string pre, .string suf, .string sub, .bool form] w (Bd True w)) :
    Calls Try.prog 4 #[.slice A1 n c1, .slice A2 n c2, .string kb, .string pre, .string suf, .string sub, .bool form] w fun e w' => e = .returned (.bool true) ∧ Below w.heap.size w w' := by
  have HY := Lib.hid hy
  have F6 := Lib.hid (flat6 (kb ++ pre ++ suf ++ sub) A1 A2 n c1 n c2 l1 l2 w (by unfold maxLen; simp only [ByteArray.size_append]; omega) L1 L2 (by unfold maxLen; omega) (by unfold maxLen; omega) r1 r2 m1 m2)
  have R1 := Lib.hid r1; have HL1 := Lib.hid L1; have M1 := Lib.hid m1
  have CK := Lib.hid (fun w' => cnt1 kb w' (by omega))
  have CP := Lib.hid (fun w' => cnt1 pre w' (by omega))
  have CS := Lib.hid (fun w' => cnt1 suf w' (by omega))
  have CB := Lib.hid (fun w' => cnt1 sub w' (by omega))
  unfold Z at hz
  generalize cntB 42 kb = x1 at hz CK
  generalize cntB 42 pre = x2 at hz CP
  generalize cntB 42 suf = x3 at hz CS
  generalize cntB 42 sub = x4 at hz CB
  have HZ : 0 < x1 ∨ (x1 = 0 ∧ 0 < x2) ∨ (x1 = 0 ∧ x2 = 0 ∧ 0 < x3) ∨ (x1 = 0 ∧ x2 = 0 ∧ x3 = 0 ∧ 0 < x4) := by omega
  clear hy r1 r2 L1 L2 m1 m2 hz
  go_enter Try.func4, Try.ntmps4
  go_wp2_with (fail)
  refine HY.out.mono ?_
  rintro e w5 ⟨b5, rfl, _, rfl⟩
  go_wp2_with (fail)
  · go_ret
    exact ⟨rfl, Below.refl _ _⟩
  refine F6.out.mono ?_
  rintro e w6 ⟨b6, rfl, _, hb6⟩
  go_wp2_with (fail)
  · go_ret
    exact ⟨rfl, hb6⟩
  refine (plain7 A1 n c1 l1 w6 HL1.out hn (R1.out.later hb6) M1.out).mono ?_
  rintro e w7 ⟨b7, rfl, _, rfl⟩
  have HB6 := Lib.hid hb6
  clear hb6
  cases b7
  · clear HZ
    go_wp2
    go_ret
    exact ⟨rfl, HB6.out⟩
  rcases HZ with z1 | ⟨rfl, z2⟩ | ⟨rfl, rfl, z3⟩ | ⟨rfl, rfl, rfl, z4⟩
  all_goals
    go_wp2_with (first | (go_at_call 13; first | ((with_reducible refine (CK.out _).mono ?_); rintro e w7 ⟨rfl, rfl⟩) | ((with_reducible refine (CP.out _).mono ?_); rintro e w7 ⟨rfl, rfl⟩) | ((with_reducible refine (CS.out _).mono ?_); rintro e w7 ⟨rfl, rfl⟩) | ((with_reducible refine (CB.out _).mono ?_); rintro e w7 ⟨rfl, rfl⟩)) | fail)
    go_ret
    exact ⟨rfl, HB6.out⟩
theorem cnt_app (c : UInt8) (a b : ByteArray) : cntB c (a ++ b) = cntB c a + cntB c b := by unfold cntB; rw [list_append, List.count_append]
theorem no_suf (s : ByteArray) (h : cntB 42 s = 0) : Lib.hasSuffix s.data.toList star.data.toList = false := by
  rw [← Bool.not_eq_true]
  intro e
  unfold Lib.hasSuffix at e
  rw [List.isSuffixOf_iff_suffix] at e
  obtain ⟨t, ht⟩ := e
  unfold cntB at h
  rw [← ht, List.count_append] at h
  have : star.data.toList.count 42 = 1 := by decide
  omega
theorem hx_false (kb pre suf sub key tv q want : ByteArray) (n : Nat) (ks vs : Nat → ByteArray) (hn : n ≤ 4096) (k1 : kb.size ≤ 131072) (k2 : pre.size ≤ 131072) (k3 : suf.size ≤ 131072) (k4 : sub.size ≤ 131072) (hz : Z kb pre suf sub) (hp : Parts false kb pre suf sub key tv q want) (hF : ∀ i, i < n → q ≠ vs i) (w' : World) (B C cap cc : Nat) (hr : w'.rowIs B 43 ((n + 1) * 10) (entt (up ks n key) (up vs n tv) (up (fun _ => 1) n 2) (n + 1))) (hc : w'.rowIs C 43 10 (fldt key tv ((n : Nat) + 1) 2 1)) :
    Calls Try.prog 17 #[.agg #[.pointer none, .pointer none, .pointer none, .int .u8 0], .string q, .agg #[.string { data := #[] }, .slice none 0 0, .slice (some ⟨B, 0, none⟩) (n + 1) cap, .slice (some ⟨C, 0, none⟩) 1 cc, .int .i32 0, .int .i32 0, .int .u8 3], .map none] w' fun e w'' => e = .returned (.tuple #[.bool true, .string want, .agg #[.int .i32 ((n : Nat) + 1), .int .i32 2]]) ∧ Below w'.heap.size w' w'' := by
  obtain ⟨p1, p2, p3, p4⟩ := hp
  obtain ⟨z1, z2, z3, z4⟩ := hz
  simp only [if_false, Bool.false_eq_true] at p1 p2 p3 p4
  have cq : cntB 42 q = 0 := by rw [p3, cnt_app, cnt_app, z2, z4, z3]
  have ct : cntB 42 tv ≠ 0 := by rw [p2, cnt_app, cnt_app, z2, z3]; decide
  refine revx17 q key tv want B C n (n + 1) cap cc _ _ _ true w' rfl (by omega) (by rw [p3]; simp only [ByteArray.size_append]; omega) (by rw [p1, ByteArray.size_append]; show _ + 1 ≤ _; omega) hr hc (no_suf q cq) (by rw [p1]; exact suf_app kb star) (fun i hi => by rw [up_lt _ _ _ hi]; exact hF i hi) (up_at _ _ _) (up_at _ _ _) (up_at _ _ _) (fun e => absurd cq (by rw [e]; exact ct)) (fun _ w => ?_) (fun h => by cases h)
  rw [p4]
  exact pat19 _ q key tv kb pre suf sub _ _ w (by rw [p3, ByteArray.append_assoc]) (by rw [p2, ByteArray.append_assoc]) p1 z2 z3 (by omega) (by omega) (by omega) (by omega)
theorem hx_true (kb pre suf sub key tv q want : ByteArray) (n : Nat) (ks vs : Nat → ByteArray) (hn : n ≤ 4096) (k1 : kb.size ≤ 131072) (k2 : pre.size ≤ 131072) (k3 : suf.size ≤ 131072) (k4 : sub.size ≤ 131072) (hz : Z kb pre suf sub) (hp : Parts true kb pre suf sub key tv q want) (hF : ∀ i, i < n → q ≠ vs i) (w' : World) (B C cap cc : Nat) (hr : w'.rowIs B 43 ((n + 1) * 10) (entt (up ks n key) (up vs n tv) (up (fun _ => 1) n 2) (n + 1))) (hc : w'.rowIs C 43 10 (fldt key tv ((n : Nat) + 1) 2 1)) :
    Calls Try.prog 17 #[.agg #[.pointer none, .pointer none, .pointer none, .int .u8 0], .string q, .agg #[.string { data := #[] }, .slice none 0 0, .slice (some ⟨B, 0, none⟩) (n + 1) cap, .slice (some ⟨C, 0, none⟩) 1 cc, .int .i32 0, .int .i32 0, .int .u8 3], .map none] w' fun e w'' => e = .returned (.tuple #[.bool true, .string want, .agg #[.int .i32 ((n : Nat) + 1), .int .i32 2]]) ∧ Below w'.heap.size w' w'' := by
  obtain ⟨p1, p2, p3, p4⟩ := hp
  obtain ⟨z1, z2, z3, z4⟩ := hz
  simp only [if_true] at p1 p2 p3 p4
  have cq : cntB 42 q = 0 := by rw [p3, cnt_app, z2, z4]
  have ck : cntB 42 key = 0 := by rw [p1, cnt_app, z1]; decide
  have kz : key.size ≤ 131073 := by rw [p1, ByteArray.size_append]; show _ + 1 ≤ _; omega
  refine revx17 q key tv want B C n (n + 1) cap cc _ _ _ false w' rfl (by omega) (by rw [p3]; simp only [ByteArray.size_append]; omega) (by omega) hr hc (no_suf q cq) (no_suf key ck) (fun i hi => by rw [up_lt _ _ _ hi]; exact hF i hi) (up_at _ _ _) (up_at _ _ _) (up_at _ _ _) (fun e => ?_) (fun h => by cases h) (fun _ w => ?_)
  · have hs : sub = ByteArray.empty := by
      rw [p3, p2] at e
      apply ext_list
      have := congrArg (fun x : ByteArray => x.data.toList) e
      simp only [list_append] at this
      have h2 := List.append_right_eq_self.1 this
      rw [h2]; rfl
    rw [p4, hs]
    apply ext_list
    rw [list_append]
    show _ = _ ++ []
    rw [List.append_nil]
  rw [p4]
  exact pre19 _ q key tv sub _ _ w (by rw [p3, p2]) (by rw [p2]; omega) (by omega) (by omega)
set_option maxRecDepth 20000 in
set_option maxHeartbeats 4000000 in
theorem walk (a0 : Option Addr) (len0 cap0 : Nat) (z0 : List ByteArray) (a1 : Option Addr) (len1 cap1 : Nat) (z1 : List ByteArray) (a2 a3 a4 a5 : ByteArray) (a6 : Bool) (w : World) (w0 : IsStrs w a0 len0 cap0 z0) (w1 : IsStrs w a1 len1 cap1 z1) (w2 : a2.size ≤ maxLen) (w3 : a3.size ≤ maxLen) (w4 : a4.size ≤ maxLen) (w5 : a5.size ≤ maxLen) :
    Calls Try.prog 4 #[.slice a0 len0 cap0, .slice a1 len1 cap1, .string a2, .string a3, .string a4, .string a5, .bool a6] w fun e w' => e = .returned (.bool true) ∧ Below w.heap.size w w' := by
  obtain ⟨⟨l0, L0, r0, m0⟩, e0, g0⟩ := rd_of_strs w0
  obtain ⟨⟨l1, L1, r1, m1⟩, e1, g1⟩ := rd_of_strs w1
  have hy := bytesx a0 len0 cap0 l0 a1 len1 cap1 l1 a2 a3 a4 a5 (.bool a6) w L0 g0 r0 m0 L1 g1 r1 m1 w2 w3 w4 w5
  by_cases hz : (len0 + tot l0) + (len1 + tot l1) + a2.size + a3.size + a4.size + a5.size ≤ 1048576
  · have k0 : ∀ s ∈ l0, s.size ≤ 1048576 := by
      intro s hs
      obtain ⟨i, hi, rfl⟩ := List.getElem_of_mem hs
      have := tot_mem l0 i hi
      omega
    have k1 : ∀ s ∈ l1, s.size ≤ 1048576 := by
      intro s hs
      obtain ⟨i, hi, rfl⟩ := List.getElem_of_mem hs
      have := tot_mem l1 i hi
      omega
    have hy' : Calls Try.prog 12 #[.slice a0 len0 cap0, .slice a1 len1 cap1, .string a2, .string a3, .string a4, .string a5, .bool a6] w (Bd True w) := hy.mono fun e w' h => by
      obtain ⟨b, h1, _, h3⟩ := h
      exact ⟨b, h1, fun _ => trivial, h3⟩
    by_cases hsz : a2.size ≤ 131072 ∧ a3.size ≤ 131072 ∧ a4.size ≤ 131072 ∧ a5.size ≤ 131072
    · obtain ⟨s2, s3, s4, s5⟩ := hsz
      have F6 := flat6 (a2 ++ a3 ++ a4 ++ a5) a0 a1 len0 cap0 len1 cap1 l0 l1 w (by unfold maxLen; simp only [ByteArray.size_append]; omega) L0 L1 g0 g1 r0 r1 k0 k1
      by_cases hn : len1 = len0 ∧ len0 ≤ 4096
      · obtain ⟨rfl, hn2⟩ := hn
        by_cases hZ : Z a2 a3 a4 a5
        · cases a6
          · exact main_false a0 a1 len1 cap0 cap1 l0 l1 a2 a3 a4 a5 _ _ _ _ w hn2 L0 L1 r0 r1 k0 k1 s2 s3 s4 s5 hZ ⟨rfl, rfl, rfl, rfl⟩ (fun hF w' B C cap cc g1 g2 => hx_false a2 a3 a4 a5 _ _ _ _ len1 (fn l0) (fn l1) hn2 s2 s3 s4 s5 hZ ⟨rfl, rfl, rfl, rfl⟩ hF w' B C cap cc g1 g2) hy'
          · exact main_true a0 a1 len1 cap0 cap1 l0 l1 a2 a3 a4 a5 _ _ _ _ w hn2 L0 L1 r0 r1 k0 k1 s2 s3 s4 s5 hZ ⟨rfl, rfl, rfl, rfl⟩ (fun hF w' B C cap cc g1 g2 => hx_true a2 a3 a4 a5 _ _ _ _ len1 (fn l0) (fn l1) hn2 s2 s3 s4 s5 hZ ⟨rfl, rfl, rfl, rfl⟩ hF w' B C cap cc g1 g2) hy'
        · exact stars a0 a1 len1 cap0 cap1 l0 l1 a2 a3 a4 a5 a6 w hn2 L0 L1 r0 r1 k0 k1 s2 s3 s4 s5 hZ hy'
      · have HY := Lib.hid hy'
        have HF6 := Lib.hid F6
        have HN := Lib.hid hn
        clear hy hy' F6 w0 w1 L0 r0 m0 e0 g0 L1 r1 m1 e1 g1 k0 k1 hz hn
        go_enter Try.func4, Try.ntmps4
        go_wp2_with fail
        refine HY.out.mono ?_
        rintro e w' ⟨b, rfl, _, rfl⟩
        go_wp2_with fail
        · go_ret
          exact ⟨rfl, Below.refl _ _⟩
        refine HF6.out.mono ?_
        rintro e w6 ⟨b6, rfl, hb, hb6⟩
        cases b6
        · clear hb
          go_wp2
          go_ret
          exact ⟨rfl, hb6⟩
        · exact absurd (hb rfl) HN.out
    · have HY := Lib.hid hy'
      have hd : 131072 < a2.size ∨ (a2.size ≤ 131072 ∧ 131072 < a3.size) ∨ (a2.size ≤ 131072 ∧ a3.size ≤ 131072 ∧ 131072 < a4.size) ∨ (a2.size ≤ 131072 ∧ a3.size ≤ 131072 ∧ a4.size ≤ 131072 ∧ 131072 < a5.size) := by omega
      unfold maxLen at w2 w3 w4 w5
      clear hy hy' w0 w1 L0 r0 m0 e0 g0 L1 r1 m1 e1 g1 k0 k1 hz hsz
      rcases hd with d | ⟨d1, d⟩ | ⟨d1, d2, d⟩ | ⟨d1, d2, d3, d⟩
      all_goals
        go_enter Try.func4, Try.ntmps4
        go_wp2_with fail
        refine HY.out.mono ?_
        rintro e w' ⟨b, rfl, _, rfl⟩
        cases b
        · go_wp2
          go_ret
          exact ⟨rfl, Below.refl _ _⟩
        · go_wp2
          go_ret
          exact ⟨rfl, Below.refl _ _⟩
  · have H := Lib.hid hy
    have HZ := Lib.hid hz
    clear hy hz w0 w1 L0 r0 m0 e0 g0 L1 r1 m1 e1 g1
    go_enter Try.func4, Try.ntmps4
    go_wp2_with fail
    refine H.out.mono ?_
    rintro e w' ⟨b, rfl, hb, rfl⟩
    cases b
    · clear hb
      go_wp2
      go_ret
      exact ⟨rfl, Below.refl _ _⟩
    · exact absurd (hb rfl) HZ.out
end Go.Proofs.Ytoonlcdifpffnaa.fnImportsExportsReverseInvertsExpansion
