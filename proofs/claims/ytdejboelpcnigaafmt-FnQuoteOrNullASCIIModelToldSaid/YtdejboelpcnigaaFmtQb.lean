/- The walk of zzQuoteASCIIModel: it writes each byte of an ASCII text by the table 'esc', within two quotes. -/
import Derived.Test.YtdejboelpcnigaaFmtQa
import Derived.Deep.RegionHeld3
import Derived.Deep.DeepCutAuto
import Derived.Deep.AppendLies
namespace Go.Proofs.YtdejboelpcnigaaFmt.Qb
open Go.RowKit Go.Deep Go.Proofs.YtdejboelpcnigaaFmt.Base Go.Proofs.YtdejboelpcnigaaFmt.Sls
set_option linter.unusedVariables false
def hx (n : Nat) : UInt8 := if n < 10 then UInt8.ofNat (48 + n) else UInt8.ofNat (87 + n)
def esc (c : UInt8) : List UInt8 :=
  if c = 7 then [92, 97] else if c = 8 then [92, 98] else if c = 12 then [92, 102] else if c = 10 then [92, 110] else if c = 13 then [92, 114]
  else if c = 9 then [92, 116] else if c = 11 then [92, 118] else if c = 92 then [92, 92] else if c = 34 then [92, 34]
  else if c.toNat < 32 ∨ c.toNat = 127 then [92, 120, hx (c.toNat / 16), hx (c.toNat % 16)] else [c]
def run (l : List UInt8) (k : Nat) : List UInt8 := 34 :: (l.take k).flatMap esc
theorem esc_len (c : UInt8) : (esc c).length ≤ 4 := by unfold esc; repeat' split
                                                       all_goals simp
theorem run_step (l : List UInt8) (k : Nat) (h : k < l.length) : run l (k + 1) = run l k ++ esc l[k] := by
  unfold run; rw [List.take_succ_eq_append_getElem h, List.flatMap_append]; simp
theorem run_len (l : List UInt8) : ∀ k, k ≤ l.length → (run l k).length ≤ 1 + 4 * k
  | 0, _ => by simp [run]
  | k + 1, h => by
    rw [run_step l k (by omega), List.length_append]
    have := run_len l k (by omega); have := esc_len l[k]; omega
theorem infoB : (Tryf.prog.info? 5).map (fun i => (i.zero, i.size, i.bytes)) = some (some (.int .u8 0), 1, 1) := by kernel_rfl
theorem rd_cells (w : World) (e : Nat) (xs : List Value) : Rd (w.alloc (.cells xs.toArray e)) (w.heap.size + 1) (some ⟨w.heap.size, 0, none⟩) xs := fun _ =>
  ⟨_, rfl, by simp, fun j u hj => by
    have e1 : (⟨w.heap.size, 0, none⟩ : Addr).add j = ⟨w.heap.size, j, none⟩ := by unfold Addr.add; split <;> simp_all
    rw [e1]
    have hh : (w.alloc (.cells xs.toArray e)).heap[w.heap.size]? = some (.cells xs.toArray e) := heap_alloc_new w _
    rw [Lib.cell_of_heap hh]
    simpa using hj⟩
theorem le_alloc {w : World} {B : Nat} (h : B ≤ w.heap.size) (o : Obj) : B ≤ (w.alloc o).heap.size := by simp; omega
theorem one_u8 (l : List Int) : ∀ u ∈ l.map (Value.int .u8), u.oneCell' = true := by
  intro u hu; simp only [List.mem_map] at hu; obtain ⟨c, _, rfl⟩ := hu; rfl
/-- Behind an append of the new bytes k onto the row. -/
theorem fin {w wr w1 : World} {A : Option Addr} {n c : Nat} {v' : Value} {L k : List UInt8} {o : Obj} (hO : Own wr w.heap.size 5 (.slice A n c) (bv L)) (hb : Below w.heap.size w wr)
    (hg : (wr.alloc o).grownBy w1 (Value.slice A n c).ownBlock) (h1 : Own w1 w.heap.size 5 v' (bv L ++ bv k)) :
    ∃ A' c', v' = .slice A' (L ++ k).length c' ∧ Own w1 w.heap.size 5 (.slice A' (L ++ k).length c') (bv (L ++ k)) ∧ Below w.heap.size w w1 := by
  rw [← bv_append] at h1
  obtain ⟨A', c', rfl⟩ := h1.form
  rw [bv_len] at h1 ⊢
  exact ⟨A', c', rfl, h1, (hb.alloc hb.size o).grown hg (by simp; have := hb.size; omega) (fun g hgg => (hO.lt g hgg).1)⟩
theorem fin2 {w wr w1 : World} {A : Option Addr} {n c : Nat} {v' : Value} {L k R E : List UInt8} {o : Obj} (hO : Own wr w.heap.size 5 (.slice A n c) (bv L)) (hb : Below w.heap.size w wr)
    (hg : (wr.alloc o).grownBy w1 (Value.slice A n c).ownBlock) (h1 : Own w1 w.heap.size 5 v' (bv L ++ bv k)) (hR : R = L ++ E) (hE : E = k) :
    ∃ A' n' c', v' = .slice A' n' c' ∧ Hid (n' = R.length) ∧ Hid (Own w1 w.heap.size 5 (.slice A' n' c') (bv R)) ∧ Hid (Below w.heap.size w w1) := by
  subst hE hR
  obtain ⟨A', c', h1, h2, h3⟩ := fin hO hb hg h1
  exact ⟨A', _, c', h1, Lib.hid rfl, Lib.hid h2, Lib.hid h3⟩
theorem c_eq {c : UInt8} {q : Int} (h : q = (c.toNat : Int)) (v : UInt8) (hv : q = (v.toNat : Int)) : c = v := by rw [← UInt8.toNat_inj]; omega
theorem ne_all {c : UInt8} {q : Int} (h : q = (c.toNat : Int)) (h7 : ¬ q = 7) (h8 : ¬ q = 8) (h12 : ¬ q = 12) (h10 : ¬ q = 10) (h13 : ¬ q = 13) (h9 : ¬ q = 9) (h11 : ¬ q = 11) (h92 : ¬ q = 92) (h34 : ¬ q = 34) : ∀ v ∈ ([7, 8, 12, 10, 13, 9, 11, 92, 34] : List UInt8), c ≠ v := by
  intro v hv e
  subst e
  simp only [List.mem_cons, List.not_mem_nil, or_false] at hv
  rcases hv with rfl | rfl | rfl | rfl | rfl | rfl | rfl | rfl | rfl <;> simp at h <;> omega
theorem esc_hex {c : UInt8} (h : ∀ v ∈ ([7, 8, 12, 10, 13, 9, 11, 92, 34] : List UInt8), c ≠ v) (hl : c.toNat < 32 ∨ c.toNat = 127) : esc c = [92, 120, hx (c.toNat / 16), hx (c.toNat % 16)] := by
  simp only [List.mem_cons, List.not_mem_nil, or_false, forall_eq_or_imp, forall_eq] at h
  obtain ⟨h1, h2, h3, h4, h5, h6, h7, h8, h9⟩ := h
  unfold esc
  simp only [h1, h2, h3, h4, h5, h6, h7, h8, h9, if_false, if_pos hl]
theorem esc_one {c : UInt8} (h : ∀ v ∈ ([7, 8, 12, 10, 13, 9, 11, 92, 34] : List UInt8), c ≠ v) (hl : ¬ (c.toNat < 32 ∨ c.toNat = 127)) : esc c = [c] := by
  simp only [List.mem_cons, List.not_mem_nil, or_false, forall_eq_or_imp, forall_eq] at h
  obtain ⟨h1, h2, h3, h4, h5, h6, h7, h8, h9⟩ := h
  unfold esc
  simp only [h1, h2, h3, h4, h5, h6, h7, h8, h9, if_false, if_neg hl]
theorem and15_fin : ∀ n : Fin 256, bits BinOp.and IntKind.u8 (n.val : Int) 15 = (n.val : Int) % 16 := by decide +kernel
theorem and15 (q : Int) (h0 : 0 ≤ q) (h1 : q ≤ 255) : bits BinOp.and IntKind.u8 q 15 = q % 16 := by
  have := and15_fin ⟨q.toNat, by omega⟩
  simp only [Int.toNat_of_nonneg h0] at this
  exact this
theorem hex_fin : ∀ i : Fin 16, (({ data := #[48, 49, 50, 51, 52, 53, 54, 55, 56, 57, 97, 98, 99, 100, 101, 102] } : ByteArray)[i.val]'i.isLt) = hx i.val := by decide +kernel
theorem hex_at (i : Nat) (h : i < 16) : (({ data := #[48, 49, 50, 51, 52, 53, 54, 55, 56, 57, 97, 98, 99, 100, 101, 102] } : ByteArray)[i]'h) = hx i := hex_fin ⟨i, h⟩
theorem fin3 {w wr w1 : World} {A : Option Addr} {n c gg cap : Nat} {L R E : List UInt8} {news : List Value} {o : Obj} (hO : Own wr w.heap.size 5 (.slice A n c) (bv L)) (hb : Below w.heap.size w wr)
    (hg : (wr.alloc o).drew.grownBy w1 (Value.slice A n c).ownBlock) (h1 : w1.ownsRow w.heap.size 5 1 (.slice (some ⟨gg, 0, none⟩) ((bv L).length + 4) cap) ((bv L).length + 4) (bv L ++ news)) (hN : news = bv E) (hR : R = L ++ E) (hE : E.length = 4) :
    Hid ((bv L).length + 4 = R.length) ∧ Hid (Own w1 w.heap.size 5 (.slice (some ⟨gg, 0, none⟩) ((bv L).length + 4) cap) (bv R)) ∧ Hid (Below w.heap.size w w1) := by
  subst hN hR
  rw [← bv_append] at h1
  have e : (bv (L ++ E)).length = (bv L).length + 4 := by rw [bv_len, bv_len, List.length_append, hE]
  refine ⟨Lib.hid (by rw [bv_len, List.length_append, hE]), Lib.hid ?_, Lib.hid ?_⟩
  · unfold Own; rw [e]; exact h1
  · exact ((hb.alloc hb.size o).drew).grown hg (by show w.heap.size ≤ (wr.alloc o).heap.size; simp; have := hb.size; omega) (fun g hgg => (hO.lt g hgg).1)
set_option maxRecDepth 20000 in
set_option maxHeartbeats 4000000 in
theorem model7 (s : ByteArray) (w : World) (hs : s.size ≤ 1048576) (hn : 0 < s.size) :
    Calls Tryf.prog 7 #[.string s] w fun e w' => e = .returned (.string ⟨(run s.data.toList s.size ++ [34]).toArray⟩) ∧ Below w.heap.size w w' := by
  have hne : s.toList.isEmpty = false := by rw [Lib.toList_data]; cases h : s.data.toList with
    | nil => have := len_list s; rw [h] at this; simp at this; omega
    | cons a l => rfl
  obtain ⟨i0, hi, hz0, hz1, hz2⟩ := info_parts infoB
  obtain ⟨w0, hmk, hown, hgr⟩ := run_make_own (P := Tryf.prog) w w.heap.size 25 5 i0 (.int .u8 0) 1 Tryf.underlying25 hi hz0 hz1 .i64 .i64 (4 * s.size + 2) (by rw [hz2]; omega) (by unfold maxLen; omega) (Nat.le_refl _)
  have hmk' : (Instr.makeSlice 25 (.int .i64 0) (.int .i64 (4 * (s.size : Int) + 2))).run Tryf.prog w = .ok (.slice (some ⟨w.heap.size, 0, none⟩) 0 (4 * s.size + 2)) w0 := by
    rw [show 4 * (s.size : Int) + 2 = ((4 * s.size + 2 : Nat) : Int) by omega]; exact hmk
  have hb0 : Below w.heap.size w w0 := ⟨hgr.os, hgr.tape, hgr.output, hgr.size, fun i hi => hgr.block i hi (by simp)⟩
  have OW := Lib.hid (show Own w0 w.heap.size 5 (.slice (some ⟨w.heap.size, 0, none⟩) 0 (4 * s.size + 2)) (bv []) from hown)
  have B0 := Lib.hid hb0
  have z0 := hb0.size
  have HI := Lib.hid hi; have Z0 := Lib.hid hz0; have Z1 := Lib.hid hz1; have Z2 := Lib.hid hz2
  clear hmk hown hgr hi hz0 hz1 hz2 hb0
  go_enter Tryf.func7, Tryf.ntmps7
  go_upto_region 5 with (at_builtin; refine append_any _ rfl (.tmp 13) (.tmp 14) 25 5 rfl w.heap.size Tryf.underlying25 (.int .u8 0) 1 rfl (by omega) infoB (.slice (some ⟨w.heap.size, 0, none⟩) 0 (4 * s.size + 2)) (bv []) rfl (OW.out.alloc _) (w0.heap.size + 1) (some ⟨w0.heap.size, 0, none⟩) 1 1 [.int .u8 34] rfl rfl (rd_cells _ _ _) (one_u8 [34]) (by simp [bv]) (le_alloc z0 _) ?_; intro v1 w1 o1 g1 at1)
  obtain ⟨A1, c1, rfl, O1, B1⟩ := fin (k := [34]) OW.out B0.out g1 o1
  have O1' := Lib.hid (show Own w1 w.heap.size 5 (.slice A1 1 c1) (bv (run s.data.toList 0)) from O1)
  have B1' := Lib.hid B1
  have el : ([] ++ [34] : List UInt8).length = 1 := rfl
  rw [el]
  clear O1 B1 OW B0 g1 o1 at1 hmk' el z0
  go_wp2
  go_loopw [3, 4] (fun v i wr => ∃ (k n : Nat) (A : Option Addr) (c : Nat), k ≤ s.size ∧ v = .slice A n c ∧ i = .int .i64 k ∧ Hid (n = (run s.data.toList k).length) ∧ Hid (Own wr w.heap.size 5 (.slice A n c) (bv (run s.data.toList k))) ∧ Hid (Below w.heap.size w wr)) (fun _ i _ => s.size - (intOf i).toNat)
  case atStart => exact ⟨0, 1, A1, c1, by omega, rfl, rfl, Lib.hid rfl, O1', B1'⟩
  case round =>
    clear O1' B1'
    obtain ⟨k, n, A, c0, hk, rfl, rfl, HNL, OW, BL⟩ := hrel
    have z := BL.out.size
    by_cases hlt : k < s.size
    · have hlt' : (k : Int) < (s.size : Int) := by omega
      have hll : k < s.data.toList.length := by rw [len_list]; exact hlt
      go_upto_region 10 with (fail)
      obtain ⟨c, hc⟩ : ∃ c : UInt8, c = s[k] := ⟨_, rfl⟩
      rw [← hc]
      obtain ⟨R, hR⟩ : ∃ R, R = run s.data.toList (k + 1) := ⟨_, rfl⟩
      obtain ⟨L, hL⟩ : ∃ L, L = run s.data.toList k := ⟨_, rfl⟩
      have LEN : (bv L).length ≤ 1073741000 := by
        rw [bv_len, hL]; have := run_len s.data.toList k (by omega); omega
      have HST : Hid (R = L ++ esc c) := Lib.hid (by rw [hR, hL, hc, run_step _ _ hll]; rfl)
      have HR := Lib.hid hR
      rw [← hL] at OW HNL
      obtain ⟨q, hq⟩ : ∃ q : Int, q = (c.toNat : Int) := ⟨_, rfl⟩
      rw [← hq]
      have hq0 : 0 ≤ q := by omega
      have hq1 : q ≤ 255 := by have := c.toNat_lt; omega
      have HQ := Lib.hid hq
      clear hq hL hR hc hll
      by_cases h7 : q = 7
      · have HE : Hid (esc c = [92, 97]) := Lib.hid (by rw [c_eq HQ.out 7 (by rw [h7]; rfl)]; rfl)
        obtain rfl := h7
        go_wp2_with (at_builtin; refine append_any _ rfl (.tmp 32) (.tmp 33) 25 5 rfl w.heap.size Tryf.underlying25 (.int .u8 0) 1 rfl (by omega) infoB (.slice A n c0) (bv L) rfl (OW.out.alloc _) (wr.heap.size + 1) (some ⟨wr.heap.size, 0, none⟩) 2 2 [.int .u8 92, .int .u8 97] rfl rfl (rd_cells _ _ _) (one_u8 [92, 97]) (by omega) (le_alloc z _) ?_; intro v1 w1 o1 g1 at1; obtain ⟨A2, n2, c2, rfl, N2, O2, B2⟩ := fin2 (k := [92, 97]) OW.out BL.out g1 o1 HST.out HE.out; clear o1 g1 at1)
        go_roundw
        case rel => exact ⟨k + 1, n2, A2, c2, by omega, rfl, by go_num, by rw [← HR.out]; exact N2, by rw [← HR.out]; exact O2, B2⟩
        case measure => simp [intOf]; omega
      have e7 : (q == 7) = false := by simp [h7]
      have H7 := Lib.hid h7
      clear h7
      by_cases h8 : q = 8
      · have HE : Hid (esc c = [92, 98]) := Lib.hid (by rw [c_eq HQ.out 8 (by rw [h8]; rfl)]; rfl)
        obtain rfl := h8
        go_wp2_with (at_builtin; refine append_any _ rfl (.tmp 38) (.tmp 39) 25 5 rfl w.heap.size Tryf.underlying25 (.int .u8 0) 1 rfl (by omega) infoB (.slice A n c0) (bv L) rfl (OW.out.alloc _) (wr.heap.size + 1) (some ⟨wr.heap.size, 0, none⟩) 2 2 [.int .u8 92, .int .u8 98] rfl rfl (rd_cells _ _ _) (one_u8 [92, 98]) (by omega) (le_alloc z _) ?_; intro v1 w1 o1 g1 at1; obtain ⟨A2, n2, c2, rfl, N2, O2, B2⟩ := fin2 (k := [92, 98]) OW.out BL.out g1 o1 HST.out HE.out; clear o1 g1 at1)
        go_roundw
        case rel => exact ⟨k + 1, n2, A2, c2, by omega, rfl, by go_num, by rw [← HR.out]; exact N2, by rw [← HR.out]; exact O2, B2⟩
        case measure => simp [intOf]; omega
      have e8 : (q == 8) = false := by simp [h8]
      have H8 := Lib.hid h8
      clear h8
      by_cases h12 : q = 12
      · have HE : Hid (esc c = [92, 102]) := Lib.hid (by rw [c_eq HQ.out 12 (by rw [h12]; rfl)]; rfl)
        obtain rfl := h12
        go_wp2_with (at_builtin; refine append_any _ rfl (.tmp 44) (.tmp 45) 25 5 rfl w.heap.size Tryf.underlying25 (.int .u8 0) 1 rfl (by omega) infoB (.slice A n c0) (bv L) rfl (OW.out.alloc _) (wr.heap.size + 1) (some ⟨wr.heap.size, 0, none⟩) 2 2 [.int .u8 92, .int .u8 102] rfl rfl (rd_cells _ _ _) (one_u8 [92, 102]) (by omega) (le_alloc z _) ?_; intro v1 w1 o1 g1 at1; obtain ⟨A2, n2, c2, rfl, N2, O2, B2⟩ := fin2 (k := [92, 102]) OW.out BL.out g1 o1 HST.out HE.out; clear o1 g1 at1)
        go_roundw
        case rel => exact ⟨k + 1, n2, A2, c2, by omega, rfl, by go_num, by rw [← HR.out]; exact N2, by rw [← HR.out]; exact O2, B2⟩
        case measure => simp [intOf]; omega
      have e12 : (q == 12) = false := by simp [h12]
      have H12 := Lib.hid h12
      clear h12
      by_cases h10 : q = 10
      · have HE : Hid (esc c = [92, 110]) := Lib.hid (by rw [c_eq HQ.out 10 (by rw [h10]; rfl)]; rfl)
        obtain rfl := h10
        go_wp2_with (at_builtin; refine append_any _ rfl (.tmp 50) (.tmp 51) 25 5 rfl w.heap.size Tryf.underlying25 (.int .u8 0) 1 rfl (by omega) infoB (.slice A n c0) (bv L) rfl (OW.out.alloc _) (wr.heap.size + 1) (some ⟨wr.heap.size, 0, none⟩) 2 2 [.int .u8 92, .int .u8 110] rfl rfl (rd_cells _ _ _) (one_u8 [92, 110]) (by omega) (le_alloc z _) ?_; intro v1 w1 o1 g1 at1; obtain ⟨A2, n2, c2, rfl, N2, O2, B2⟩ := fin2 (k := [92, 110]) OW.out BL.out g1 o1 HST.out HE.out; clear o1 g1 at1)
        go_roundw
        case rel => exact ⟨k + 1, n2, A2, c2, by omega, rfl, by go_num, by rw [← HR.out]; exact N2, by rw [← HR.out]; exact O2, B2⟩
        case measure => simp [intOf]; omega
      have e10 : (q == 10) = false := by simp [h10]
      have H10 := Lib.hid h10
      clear h10
      by_cases h13 : q = 13
      · have HE : Hid (esc c = [92, 114]) := Lib.hid (by rw [c_eq HQ.out 13 (by rw [h13]; rfl)]; rfl)
        obtain rfl := h13
        go_wp2_with (at_builtin; refine append_any _ rfl (.tmp 56) (.tmp 57) 25 5 rfl w.heap.size Tryf.underlying25 (.int .u8 0) 1 rfl (by omega) infoB (.slice A n c0) (bv L) rfl (OW.out.alloc _) (wr.heap.size + 1) (some ⟨wr.heap.size, 0, none⟩) 2 2 [.int .u8 92, .int .u8 114] rfl rfl (rd_cells _ _ _) (one_u8 [92, 114]) (by omega) (le_alloc z _) ?_; intro v1 w1 o1 g1 at1; obtain ⟨A2, n2, c2, rfl, N2, O2, B2⟩ := fin2 (k := [92, 114]) OW.out BL.out g1 o1 HST.out HE.out; clear o1 g1 at1)
        go_roundw
        case rel => exact ⟨k + 1, n2, A2, c2, by omega, rfl, by go_num, by rw [← HR.out]; exact N2, by rw [← HR.out]; exact O2, B2⟩
        case measure => simp [intOf]; omega
      have e13 : (q == 13) = false := by simp [h13]
      have H13 := Lib.hid h13
      clear h13
      by_cases h9 : q = 9
      · have HE : Hid (esc c = [92, 116]) := Lib.hid (by rw [c_eq HQ.out 9 (by rw [h9]; rfl)]; rfl)
        obtain rfl := h9
        go_wp2_with (at_builtin; refine append_any _ rfl (.tmp 62) (.tmp 63) 25 5 rfl w.heap.size Tryf.underlying25 (.int .u8 0) 1 rfl (by omega) infoB (.slice A n c0) (bv L) rfl (OW.out.alloc _) (wr.heap.size + 1) (some ⟨wr.heap.size, 0, none⟩) 2 2 [.int .u8 92, .int .u8 116] rfl rfl (rd_cells _ _ _) (one_u8 [92, 116]) (by omega) (le_alloc z _) ?_; intro v1 w1 o1 g1 at1; obtain ⟨A2, n2, c2, rfl, N2, O2, B2⟩ := fin2 (k := [92, 116]) OW.out BL.out g1 o1 HST.out HE.out; clear o1 g1 at1)
        go_roundw
        case rel => exact ⟨k + 1, n2, A2, c2, by omega, rfl, by go_num, by rw [← HR.out]; exact N2, by rw [← HR.out]; exact O2, B2⟩
        case measure => simp [intOf]; omega
      have e9 : (q == 9) = false := by simp [h9]
      have H9 := Lib.hid h9
      clear h9
      by_cases h11 : q = 11
      · have HE : Hid (esc c = [92, 118]) := Lib.hid (by rw [c_eq HQ.out 11 (by rw [h11]; rfl)]; rfl)
        obtain rfl := h11
        go_wp2_with (at_builtin; refine append_any _ rfl (.tmp 68) (.tmp 69) 25 5 rfl w.heap.size Tryf.underlying25 (.int .u8 0) 1 rfl (by omega) infoB (.slice A n c0) (bv L) rfl (OW.out.alloc _) (wr.heap.size + 1) (some ⟨wr.heap.size, 0, none⟩) 2 2 [.int .u8 92, .int .u8 118] rfl rfl (rd_cells _ _ _) (one_u8 [92, 118]) (by omega) (le_alloc z _) ?_; intro v1 w1 o1 g1 at1; obtain ⟨A2, n2, c2, rfl, N2, O2, B2⟩ := fin2 (k := [92, 118]) OW.out BL.out g1 o1 HST.out HE.out; clear o1 g1 at1)
        go_roundw
        case rel => exact ⟨k + 1, n2, A2, c2, by omega, rfl, by go_num, by rw [← HR.out]; exact N2, by rw [← HR.out]; exact O2, B2⟩
        case measure => simp [intOf]; omega
      have e11 : (q == 11) = false := by simp [h11]
      have H11 := Lib.hid h11
      clear h11
      by_cases h92 : q = 92
      · have HE : Hid (esc c = [92, 92]) := Lib.hid (by rw [c_eq HQ.out 92 (by rw [h92]; rfl)]; rfl)
        obtain rfl := h92
        go_wp2_with (at_builtin; refine append_any _ rfl (.tmp 74) (.tmp 75) 25 5 rfl w.heap.size Tryf.underlying25 (.int .u8 0) 1 rfl (by omega) infoB (.slice A n c0) (bv L) rfl (OW.out.alloc _) (wr.heap.size + 1) (some ⟨wr.heap.size, 0, none⟩) 2 2 [.int .u8 92, .int .u8 92] rfl rfl (rd_cells _ _ _) (one_u8 [92, 92]) (by omega) (le_alloc z _) ?_; intro v1 w1 o1 g1 at1; obtain ⟨A2, n2, c2, rfl, N2, O2, B2⟩ := fin2 (k := [92, 92]) OW.out BL.out g1 o1 HST.out HE.out; clear o1 g1 at1)
        go_roundw
        case rel => exact ⟨k + 1, n2, A2, c2, by omega, rfl, by go_num, by rw [← HR.out]; exact N2, by rw [← HR.out]; exact O2, B2⟩
        case measure => simp [intOf]; omega
      have e92 : (q == 92) = false := by simp [h92]
      have H92 := Lib.hid h92
      clear h92
      by_cases h34 : q = 34
      · have HE : Hid (esc c = [92, 34]) := Lib.hid (by rw [c_eq HQ.out 34 (by rw [h34]; rfl)]; rfl)
        obtain rfl := h34
        go_wp2_with (at_builtin; refine append_any _ rfl (.tmp 80) (.tmp 81) 25 5 rfl w.heap.size Tryf.underlying25 (.int .u8 0) 1 rfl (by omega) infoB (.slice A n c0) (bv L) rfl (OW.out.alloc _) (wr.heap.size + 1) (some ⟨wr.heap.size, 0, none⟩) 2 2 [.int .u8 92, .int .u8 34] rfl rfl (rd_cells _ _ _) (one_u8 [92, 34]) (by omega) (le_alloc z _) ?_; intro v1 w1 o1 g1 at1; obtain ⟨A2, n2, c2, rfl, N2, O2, B2⟩ := fin2 (k := [92, 34]) OW.out BL.out g1 o1 HST.out HE.out; clear o1 g1 at1)
        go_roundw
        case rel => exact ⟨k + 1, n2, A2, c2, by omega, rfl, by go_num, by rw [← HR.out]; exact N2, by rw [← HR.out]; exact O2, B2⟩
        case measure => simp [intOf]; omega
      have e34 : (q == 34) = false := by simp [h34]
      have H34 := Lib.hid h34
      clear h34
      have NE : Hid (∀ v ∈ [7, 8, 12, 10, 13, 9, 11, 92, 34], c ≠ v) := Lib.hid (ne_all HQ.out H7.out H8.out H12.out H10.out H13.out H9.out H11.out H92.out H34.out)
      clear H7 H8 H12 H10 H13 H9 H11 H92 H34
      by_cases hlo : q < 32 ∨ q = 127
      · have HE : Hid (esc c = [92, 120, hx (c.toNat / 16), hx (c.toNat % 16)]) := Lib.hid (esc_hex NE.out (by have := HQ.out; omega))
        rcases hlo with hlo | hlo
        · go_upto_region 29 with (fail)
          obtain ⟨i, hi⟩ : ∃ i : Nat, q / 16 = (i : Int) := ⟨(q / 16).toNat, by omega⟩
          obtain ⟨j, hj⟩ : ∃ j : Nat, q % 16 = (j : Int) := ⟨(q % 16).toNat, by omega⟩
          have hand : bits BinOp.and IntKind.u8 q 15 = (j : Int) := by rw [and15 q hq0 hq1, hj]
          have hi1 : (i : Int) < 16 := by omega
          have hj1 : (j : Int) < 16 := by omega
          have hi2 : i < 16 := by omega
          have hj2 : j < 16 := by omega
          have HNEWS : Hid ([.int .u8 92, .int .u8 120, .int .u8 ((({ data := #[48, 49, 50, 51, 52, 53, 54, 55, 56, 57, 97, 98, 99, 100, 101, 102] } : ByteArray)[i]'hi2).toNat : Int), .int .u8 ((({ data := #[48, 49, 50, 51, 52, 53, 54, 55, 56, 57, 97, 98, 99, 100, 101, 102] } : ByteArray)[j]'hj2).toNat : Int)] = bv (esc c)) := Lib.hid (by
            rw [HE.out, show c.toNat / 16 = i by have := HQ.out; omega, show c.toNat % 16 = j by have := HQ.out; omega]
            rw [hex_at i hi2, hex_at j hj2]; rfl)
          have LEN4 : (bv L).length + 4 ≤ maxLen := by unfold maxLen; omega
          have LENB : ((bv L).length + 4) * 1 ≤ 140737488355328 := by omega
          clear hj
          go_region_held3 (fun w' => True) (trivial)
            ((refine step_append_lies _ (by rfl) _ _ _ (by rfl) w.heap.size 5 i0 (.int .u8 0) 1 1 Tryf.underlying25 HI.out Z0.out Z1.out Z2.out rfl (by omega) (.slice A n c0) (bv L).length (bv L) (by rfl) (World.ownsRow.drew (World.ownsRow.alloc OW.out _)) ⟨wr.heap.size, 0, none⟩ 4 4 [.int .u8 92, .int .u8 120, .int .u8 ((({ data := #[48, 49, 50, 51, 52, 53, 54, 55, 56, 57, 97, 98, 99, 100, 101, 102] } : ByteArray)[i]'hi2).toNat : Int), .int .u8 ((({ data := #[48, 49, 50, 51, 52, 53, 54, 55, 56, 57, 97, 98, 99, 100, 101, 102] } : ByteArray)[j]'hj2).toNat : Int)] (by rfl) (by rfl) (World.news_of_block (cs := #[.int .u8 92, .int .u8 120, .int .u8 ((({ data := #[48, 49, 50, 51, 52, 53, 54, 55, 56, 57, 97, 98, 99, 100, 101, 102] } : ByteArray)[i]'hi2).toNat : Int), .int .u8 ((({ data := #[48, 49, 50, 51, 52, 53, 54, 55, 56, 57, 97, 98, 99, 100, 101, 102] } : ByteArray)[j]'hj2).toNat : Int)]) (t := 5) (fr := (0, 0)) (heap_alloc_new wr _)) (one_u8 [92, 120, ((({ data := #[48, 49, 50, 51, 52, 53, 54, 55, 56, 57, 97, 98, 99, 100, 101, 102] } : ByteArray)[i]'hi2).toNat : Int), ((({ data := #[48, 49, 50, 51, 52, 53, 54, 55, 56, 57, 97, 98, 99, 100, 101, 102] } : ByteArray)[j]'hj2).toNat : Int)]) (by omega) LEN4 LENB (le_alloc z _) (wr.heap.size + 1) (by simp) ?_; intro gg cap w1 o1 g1 at1 lt1))
          all_goals
            obtain ⟨N2, O2, B2⟩ := fin3 OW.out BL.out g1 o1 HNEWS.out HST.out (by rw [HE.out]; rfl)
            clear o1 g1 at1 lt1
            first
              | exact ⟨⟨k + 1, _, _, _, by omega, rfl, by go_num, by rw [← HR.out]; exact N2, by rw [← HR.out]; exact O2, B2⟩, by simp [intOf]; omega⟩
              | (go_wp2
                 go_roundw
                 case rel => exact ⟨k + 1, _, _, _, by omega, rfl, by go_num, by rw [← HR.out]; exact N2, by rw [← HR.out]; exact O2, B2⟩
                 case measure => simp [intOf]; omega)
        · have l0 : ¬ q < 32 := by omega
          have e127 : (q == 127) = true := by rw [beq_iff_eq]; omega
          clear hlo
          go_upto_region 29 with (fail)
          obtain ⟨i, hi⟩ : ∃ i : Nat, q / 16 = (i : Int) := ⟨(q / 16).toNat, by omega⟩
          obtain ⟨j, hj⟩ : ∃ j : Nat, q % 16 = (j : Int) := ⟨(q % 16).toNat, by omega⟩
          have hand : bits BinOp.and IntKind.u8 q 15 = (j : Int) := by rw [and15 q hq0 hq1, hj]
          have hi1 : (i : Int) < 16 := by omega
          have hj1 : (j : Int) < 16 := by omega
          have hi2 : i < 16 := by omega
          have hj2 : j < 16 := by omega
          have HNEWS : Hid ([.int .u8 92, .int .u8 120, .int .u8 ((({ data := #[48, 49, 50, 51, 52, 53, 54, 55, 56, 57, 97, 98, 99, 100, 101, 102] } : ByteArray)[i]'hi2).toNat : Int), .int .u8 ((({ data := #[48, 49, 50, 51, 52, 53, 54, 55, 56, 57, 97, 98, 99, 100, 101, 102] } : ByteArray)[j]'hj2).toNat : Int)] = bv (esc c)) := Lib.hid (by
            rw [HE.out, show c.toNat / 16 = i by have := HQ.out; omega, show c.toNat % 16 = j by have := HQ.out; omega]
            rw [hex_at i hi2, hex_at j hj2]; rfl)
          have LEN4 : (bv L).length + 4 ≤ maxLen := by unfold maxLen; omega
          have LENB : ((bv L).length + 4) * 1 ≤ 140737488355328 := by omega
          clear hj
          go_region_held3 (fun w' => True) (trivial)
            ((refine step_append_lies _ (by rfl) _ _ _ (by rfl) w.heap.size 5 i0 (.int .u8 0) 1 1 Tryf.underlying25 HI.out Z0.out Z1.out Z2.out rfl (by omega) (.slice A n c0) (bv L).length (bv L) (by rfl) (World.ownsRow.drew (World.ownsRow.alloc OW.out _)) ⟨wr.heap.size, 0, none⟩ 4 4 [.int .u8 92, .int .u8 120, .int .u8 ((({ data := #[48, 49, 50, 51, 52, 53, 54, 55, 56, 57, 97, 98, 99, 100, 101, 102] } : ByteArray)[i]'hi2).toNat : Int), .int .u8 ((({ data := #[48, 49, 50, 51, 52, 53, 54, 55, 56, 57, 97, 98, 99, 100, 101, 102] } : ByteArray)[j]'hj2).toNat : Int)] (by rfl) (by rfl) (World.news_of_block (cs := #[.int .u8 92, .int .u8 120, .int .u8 ((({ data := #[48, 49, 50, 51, 52, 53, 54, 55, 56, 57, 97, 98, 99, 100, 101, 102] } : ByteArray)[i]'hi2).toNat : Int), .int .u8 ((({ data := #[48, 49, 50, 51, 52, 53, 54, 55, 56, 57, 97, 98, 99, 100, 101, 102] } : ByteArray)[j]'hj2).toNat : Int)]) (t := 5) (fr := (0, 0)) (heap_alloc_new wr _)) (one_u8 [92, 120, ((({ data := #[48, 49, 50, 51, 52, 53, 54, 55, 56, 57, 97, 98, 99, 100, 101, 102] } : ByteArray)[i]'hi2).toNat : Int), ((({ data := #[48, 49, 50, 51, 52, 53, 54, 55, 56, 57, 97, 98, 99, 100, 101, 102] } : ByteArray)[j]'hj2).toNat : Int)]) (by omega) LEN4 LENB (le_alloc z _) (wr.heap.size + 1) (by simp) ?_; intro gg cap w1 o1 g1 at1 lt1))
          all_goals
            obtain ⟨N2, O2, B2⟩ := fin3 OW.out BL.out g1 o1 HNEWS.out HST.out (by rw [HE.out]; rfl)
            clear o1 g1 at1 lt1
            first
              | exact ⟨⟨k + 1, _, _, _, by omega, rfl, by go_num, by rw [← HR.out]; exact N2, by rw [← HR.out]; exact O2, B2⟩, by simp [intOf]; omega⟩
              | (go_wp2
                 go_roundw
                 case rel => exact ⟨k + 1, _, _, _, by omega, rfl, by go_num, by rw [← HR.out]; exact N2, by rw [← HR.out]; exact O2, B2⟩
                 case measure => simp [intOf]; omega)
      · have HE : Hid (esc c = [c]) := Lib.hid (esc_one NE.out (by have := HQ.out; omega))
        have l0 : ¬ q < 32 := by omega
        have e127 : (q == 127) = false := by rw [beq_eq_false_iff_ne]; omega
        clear hlo
        skip
        go_wp2_with (at_builtin; refine append_any _ rfl (.tmp 25) (.tmp 27) 25 5 rfl w.heap.size Tryf.underlying25 (.int .u8 0) 1 rfl (by omega) infoB (.slice A n c0) (bv L) rfl (OW.out.alloc _) (wr.heap.size + 1) (some ⟨wr.heap.size, 0, none⟩) 1 1 [.int .u8 q] rfl rfl (rd_cells _ _ _) (one_u8 [q]) (by omega) (le_alloc z _) ?_; intro v1 w1 o1 g1 at1; obtain ⟨A2, n2, c2, rfl, N2, O2, B2⟩ := fin2 (k := [c]) OW.out BL.out g1 (by have o2 := o1; rw [HQ.out] at o2; exact o2) HST.out HE.out; clear o1 g1 at1)
        go_roundw
        case rel => exact ⟨k + 1, n2, A2, c2, by omega, rfl, by go_num, by rw [← HR.out]; exact N2, by rw [← HR.out]; exact O2, B2⟩
        case measure => simp [intOf]; omega
    · have hkn : k = s.size := by omega
      subst hkn
      obtain ⟨L, hL⟩ : ∃ L, L = run s.data.toList s.size := ⟨_, rfl⟩
      rw [← hL] at OW HNL
      have HL := Lib.hid hL
      have LEN : (bv L).length + 1 ≤ 1073741824 := by
        rw [bv_len, hL]; have := run_len s.data.toList s.size (by rw [len_list]; omega); omega
      clear hL
      go_upto_region 31 with (at_builtin; refine append_any _ rfl (.tmp 99) (.tmp 100) 25 5 rfl w.heap.size Tryf.underlying25 (.int .u8 0) 1 rfl (by omega) infoB (.slice A n c0) (bv L) rfl (OW.out.alloc _) (wr.heap.size + 1) (some ⟨wr.heap.size, 0, none⟩) 1 1 [.int .u8 34] rfl rfl (rd_cells _ _ _) (one_u8 [34]) (by omega) (le_alloc z _) ?_; intro v2 w2 o2 g2 at2)
      obtain ⟨A2, c2, rfl, O2, B2⟩ := fin (k := [34]) OW.out BL.out g2 o2
      have O2' := Lib.hid O2; have B2' := Lib.hid B2
      have hconv : (convert 25 9 (.slice A2 (L ++ [34]).length c2)).run Tryf.prog w2 = .ok (.string ⟨(L ++ [34]).toArray⟩) w2 := by
        obtain ⟨x, rfl, _, hc⟩ := O2.rd (by simp [bv])
        exact run_convert_bytes_back (P := Tryf.prog) w2 25 9 5 x c2 (L ++ [34]) Tryf.underlying25 Tryf.underlying5 Tryf.underlying9 (fun j hj => hc j _ (bv_at _ j hj))
      obtain ⟨q, hq⟩ : ∃ q, q = (L ++ [34]).length := ⟨_, rfl⟩
      rw [← hq] at hconv ⊢
      clear O2 B2 g2 o2 at2 OW BL hq O2'
      go_wp2
      go_ret
      exact ⟨ret_string (by rw [HL.out]), B2'.out⟩
end Go.Proofs.YtdejboelpcnigaaFmt.Qb
