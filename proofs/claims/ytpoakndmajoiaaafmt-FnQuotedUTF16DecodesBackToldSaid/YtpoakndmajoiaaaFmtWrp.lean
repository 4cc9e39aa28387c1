/- What the law calls, by contracts. Conditions: lengths. -/
import Derived.Test.YtpoakndmajoiaaaFmtPqt
import Derived.Lib.ConvBytes
namespace Go.Proofs.YtpoakndmajoiaaaFmt.Wrp
open Go.RowKit Go.Deep Go.Proofs.YtpoakndmajoiaaaFmt.Base Go.Proofs.YtpoakndmajoiaaaFmt.Sls Go.Proofs.YtpoakndmajoiaaaFmt.Byw Go.Proofs.YtpoakndmajoiaaaFmt.Prq Go.Proofs.YtpoakndmajoiaaaFmt.Esq Go.Proofs.YtpoakndmajoiaaaFmt.Unb Go.Proofs.YtpoakndmajoiaaaFmt.Unq Go.Proofs.YtpoakndmajoiaaaFmt.Pqt
set_option linter.unusedVariables false
theorem infoU : (Tryf.prog.info? 29).map (fun i => (i.zero, i.size, i.bytes)) = some (some (.int .u16 0), 1, 2) := by kernel_rfl
theorem uv_get (l : List Nat) (j : Nat) (h : j < l.length) : (uv l)[j]? = some (.int .u16 (l[j] : Int)) := by simp [uv, h]
/-- If it says yes, what the arguments lead to is short. -/
theorem bytes4 (A0 : Option Addr) (n0 c0 : Nat) (x1 : Value) (x2 : Value) (x3 : Value) (w : World) (hn0 : n0 ≤ maxLen) :
    Calls Tryf.prog 4 #[.slice A0 n0 c0, x1, x2, x3] w (Bd (n0 ≤ 1048576) w) := by
  unfold maxLen at hn0
  go_enter Tryf.func4, Tryf.ntmps4
  go_wp2
  all_goals first | (go_ret; exact ⟨false, rfl, (fun h => by cases h), rfl⟩) | skip
  go_ret
  exact ⟨true, rfl, (fun _ => by omega), rfl⟩

def copU (l : List Nat) (k i : Nat) : Value := if i < k then (uv l).getD i (.int .u16 0) else .int .u16 0
theorem copU_step (l : List Nat) (k : Nat) (u : Value) (h : (uv l)[k]? = some u) (i : Nat) : (if i = k then u else copU l k i) = copU l (k + 1) i := by
  unfold copU
  by_cases hi : i = k
  · subst hi; rw [if_pos rfl, if_pos (by omega), List.getD_eq_getElem?_getD, h]; rfl
  · rw [if_neg hi]
    by_cases h2 : i < k
    · rw [if_pos h2, if_pos (by omega)]
    · rw [if_neg h2, if_neg (by omega)]
theorem cloneU_nil (w : World) : Calls Tryf.prog 5 #[.slice none 0 0] w fun e w' => e = .returned (.slice none 0 0) ∧ w = w' := by
  have hnl := fun (W : World) (a : Option Addr) (n c : Nat) => Lib.run_eql_slice_nil (P := Tryf.prog) W 22 29 a n c 0 0 Tryf.underlying22
  go_enter Tryf.func5, Tryf.ntmps5
  go_wp2
  go_ret
  exact ⟨rfl, rfl⟩
theorem cloneU_some (x : Addr) (n c : Nat) (l : List Nat) (w : World) (hl : l.length = n) (hn : n ≤ 16777216) (hr : Rd w w.heap.size (some x) (uv l)) :
    Calls Tryf.prog 5 #[.slice (some x) n c] w fun e w' => e = .returned (.slice (some ⟨w.heap.size, 0, none⟩) n n) ∧ Own w' w.heap.size 29 (.slice (some ⟨w.heap.size, 0, none⟩) n n) (uv l) ∧ Below w.heap.size w w' := by
  have hmk := fun W => run_make_row' (P := Tryf.prog) 22 29 (.int .u16 0) 2 Tryf.underlying22 infoU rfl .i64 .i64 n (by omega) (by omega) W
  have HL := Lib.hid hl; clear hl
  have HRd := Lib.hid hr; clear hr
  have hnl := fun (W : World) (a : Option Addr) (n c : Nat) => Lib.run_eql_slice_nil (P := Tryf.prog) W 22 29 a n c 0 0 Tryf.underlying22
  go_enter Tryf.func5, Tryf.ntmps5
  go_wp2
  clear hmk hnl
  go_loopw [4] (fun i wr => ∃ k : Nat, k ≤ n ∧ i = .int .i64 k ∧ wr.rowIs w.heap.size 29 n (copU l k) ∧ Below w.heap.size w wr) (fun i _ => n - (intOf i).toNat)
  case atStart => exact ⟨0, by omega, rfl, (World.rowIs_made w (.int .u16 0) n 29).congr (fun i _ => by unfold copU; rw [if_neg (by omega)]), (Below.refl _ _).alloc (Nat.le_refl _) _⟩
  case round =>
    obtain ⟨k, hk, rfl, HR, hbel⟩ := hrel
    by_cases hlt : k < n
    · have hkl : k < l.length := by rw [HL.out]; exact hlt
      obtain ⟨y, hy, hb, hc⟩ := HRd.out.at_ (uv_get l k hkl)
      injection hy with hy; subst hy
      have cx := (hbel.cell (p := x.add k) (by rw [add_block]; exact hb)).trans hc
      have cw := HR.cell (i := k) hlt
      have fw := HR.frozen k
      have R2 := Lib.hid ((HR.set k _).congr (fun i _ => copU_step l k _ (uv_get l k hkl) i))
      have B2 := Lib.hid (hbel.setCell (p := ⟨w.heap.size, k, none⟩) (Nat.le_refl _) (.int .u16 (l[k] : Int)))
      obtain ⟨q, hq⟩ : ∃ q : Int, q = (l[k] : Int) := ⟨_, rfl⟩
      rw [← hq] at cx R2 B2
      clear HR hbel hq hb hc
      go_wp2
      go_roundw
      case rel => exact ⟨k + 1, by omega, by go_num, R2.out, B2.out⟩
      case measure => simp [intOf]; omega
    · have hkn : k = n := by omega
      subst hkn
      have R2 := Lib.hid HR
      have B2 := Lib.hid hbel
      clear HR hbel
      go_wp2
      go_ret
      refine ⟨rfl, ?_, B2.out⟩
      have e1 : (uv l).length = k := by rw [uv_len, HL.out]
      refine Own.of_row (R2.out) e1 (fun i hi => ?_) (Nat.le_refl _) (by unfold maxLen; omega)
      unfold copU
      rw [if_pos hi, List.getD_eq_getElem?_getD, List.getElem?_eq_getElem (by omega)]; rfl
def ClU (n : Nat) (l : List Nat) (w : World) (e : Ending) (w' : World) : Prop := ∃ A' c', e = .returned (.slice A' n c') ∧ Own w' w.heap.size 29 (.slice A' n c') (uv l) ∧ Below w.heap.size w w'
theorem cloneU (A : Option Addr) (n c : Nat) (l : List Nat) (w : World) (hl : l.length = n) (hn : n ≤ 16777216) (hnil : A = none → n = 0 ∧ c = 0) (hr : Rd w w.heap.size A (uv l)) : Calls Tryf.prog 5 #[.slice A n c] w (ClU n l w) := by
  rcases A with _ | x
  · obtain ⟨rfl, rfl⟩ := hnil rfl
    obtain rfl : l = [] := List.eq_nil_of_length_eq_zero hl
    refine (cloneU_nil w).mono ?_
    rintro e w' ⟨rfl, rfl⟩
    exact ⟨none, 0, rfl, Own.nil _ _ _, Below.refl _ _⟩
  · refine (cloneU_some x n c l w hl hn hr).mono ?_
    rintro e w' ⟨rfl, h1, h2⟩
    exact ⟨_, _, rfl, h1, h2⟩

/-! ### the printer -/
theorem conv_empty (w : World) : ∃ (C : Nat) (w1 : World), (convert 9 25 (.string { data := #[] })).run Tryf.prog w = .ok (.slice (some ⟨w.heap.size, 0, none⟩) 0 C) w1 ∧ Own w1 w.heap.size 5 (.slice (some ⟨w.heap.size, 0, none⟩) 0 C) (bv []) ∧ Below w.heap.size w w1 ∧ w1.heap.size = w.heap.size + 1 := by
  have h := Lib.run_convert_string_bytes (P := Tryf.prog) w 9 25 5 { data := #[] } Tryf.underlying9 Tryf.underlying25 Tryf.underlying5
  have hsz := Lib.bytesWorld_size w 5 { data := #[] }
  have hcs : (Lib.bytesCells w 5 { data := #[] }).size = grownCap w 0 0 5 := by
    have e : ({ data := #[] } : ByteArray).size = 0 := rfl
    simp [Lib.bytesCells, e]
  refine ⟨_, _, h, .inr ⟨w.heap.size, _, _, _, rfl, Nat.le_refl _, Lib.bytesWorld_at_new w 5 { data := #[] }, .inr (by rw [hcs]; exact Nat.le_refl _), Nat.zero_le _, grownCap_le_maxLen w 0 0 5 (Nat.zero_le _), hcs, rfl⟩, ⟨rfl, rfl, rfl, by rw [hsz]; omega, fun i hi => Lib.bytesWorld_at_old w 5 _ i hi⟩, hsz⟩
theorem wpList_build {P : Program} (w : World) {ops : Array Oper} {rest : List Oper} {o : Oper} {a : Act} {Q : Exit → Act → World → Prop} (hg : o.guard = none) (t : TypeId) (parts : Array (Nat × Operand)) (ho : o.op = .build t parts)
    (vals : Array (Nat × Value)) (hv : (parts.map fun p => (p.1, a.eval p.2)) = vals) (cells : Array Value) (h : P.built t vals.toList = some cells) (hK : wpList P ops Q rest (a.put o.dst (.agg cells)) w) : wpList P ops Q (o :: rest) a w := by
  refine wpList_plain hg fun K hK' => ?_
  have hr := run_build (P := P) w t vals cells h
  rw [← hv] at hr
  unfold Oper.wp
  simp [execOp, ho, hr, Result.andThen]
  exact hK' _ _ hK
def Cs (cs : Array Value) (A : Option Addr) (n c : Nat) (f : Int) (m : Bool) : Prop := cs[9]? = some (.slice A n c) ∧ cs[24]? = some (.int .u64 f) ∧ cs[26]? = some (.int .i64 0) ∧ cs[30]? = some (.bool m) ∧ cs[31]? = some (.bool false) ∧ cs[34]? = some (.bool false) ∧ 34 < cs.size ∧ (cs[25]?).isSome = true ∧ (cs[28]?).isSome = true
theorem built_ex (A : Option Addr) (n c : Nat) : ∃ cs, Tryf.prog.built 85 [(9, .slice A n c), (15, .int .i64 (-1)), (16, .int .i64 (-1)), (17, .int .i64 (-1)), (18, .int .i64 (-1)), (20, .int .i64 (-1)), (21, .int .i64 (-1)), (22, .int .i64 (-1)), (23, .int .i64 (-1))] = some cs ∧ Cs cs A n c 0 false :=
  ⟨(Tryf.prog.built 85 [(9, .slice A n c), (15, .int .i64 (-1)), (16, .int .i64 (-1)), (17, .int .i64 (-1)), (18, .int .i64 (-1)), (20, .int .i64 (-1)), (21, .int .i64 (-1)), (22, .int .i64 (-1)), (23, .int .i64 (-1))]).getD #[], by kernel_rfl, by kernel_rfl, by kernel_rfl, by kernel_rfl, by kernel_rfl, by kernel_rfl, by kernel_rfl, Nat.le_of_ble_eq_true (by kernel_rfl), by kernel_rfl, by kernel_rfl⟩
theorem cells_set {w : World} {b : Nat} {cs : Array Value} (h : w.heap[b]? = some (.cells cs 85 (0, 0))) (j : Nat) (u : Value) : (w.setCell ⟨b, j, none⟩ u).heap[b]? = some (.cells (cs.setIfInBounds j u) 85 (0, 0)) := by
  simp [World.setCell, Array.getElem?_modify, h]
def N8 (nt mi : Bool) (w : World) (e : Ending) (w' : World) : Prop := ∃ b A c, e = .returned (.pointer (some ⟨b, 0, none⟩)) ∧ w.heap.size ≤ b ∧ Prn w' b (mi, nt) (.slice A 0 c) ∧ Own w' w.heap.size 5 (.slice A 0 c) (bv []) ∧ Below w.heap.size w w'
theorem prn_new {w : World} {b : Nat} {cs : Array Value} {A : Option Addr} {n c : Nat} {mi nt : Bool} {f : Int} (hf : f = ft (mi, nt)) (h : w.heap[b]? = some (.cells cs 85 (0, 0))) (hC : Cs cs A n c 0 false) : Prn ((((w.setCell ⟨b, 24, none⟩ (.int .u64 f)).setCell ⟨b, 28, none⟩ (.bool false)).setCell ⟨b, 30, none⟩ (.bool mi)).setCell ⟨b, 25, none⟩ (.int .i64 0)) b (mi, nt) (.slice A n c) := by
  subst hf
  obtain ⟨h9, h24, h26, h30, h31, h34, hz, _, _⟩ := hC
  refine ⟨_, cells_set (cells_set (cells_set (cells_set h 24 _) 28 _) 30 _) 25 _, ?_, ?_, ?_, ?_, ?_, ?_⟩
  · simp [h9]
  · simp [Array.getElem?_setIfInBounds]; omega
  · simp [h26]
  · simp [Array.getElem?_setIfInBounds]; omega
  · simp [h31]
  · simp [h34]
set_option maxRecDepth 20000 in
set_option maxHeartbeats 2000000 in
theorem new8 (nt mi : Bool) (w : World) :
    Calls Tryf.prog 8 #[.string { data := #[] }, .bool nt, .bool false, .bool false, .bool false, .bool mi, .int .i64 0] w (N8 nt mi w) := by
  obtain ⟨C, w1, hcv, o1, b1, z1⟩ := conv_empty w
  have O1 := Lib.hid o1; have B1 := Lib.hid b1
  obtain ⟨H, hH⟩ : ∃ H, w1.heap.size = H := ⟨_, rfl⟩
  rw [hH] at z1
  have Z1 := Lib.hid z1
  obtain ⟨cs, hcs, hC⟩ := built_ex (some ⟨w.heap.size, 0, none⟩) 0 C
  have BL := Lib.hid hcs; have HC := Lib.hid hC
  have hh := heap_alloc_new w1 (.cells cs 85)
  rw [hH] at hh
  have HH := Lib.hid hh
  have OW := Lib.hid (o1.alloc (.cells cs 85))
  have BW := Lib.hid (b1.alloc b1.size (.cells cs 85))
  have HL := Lib.hid (show w.heap.size ≤ H by omega)
  have HNE : Hid ((Value.slice (some ⟨w.heap.size, 0, none⟩) 0 C).ownBlock ≠ some H) := Lib.hid (fun e => absurd (show w.heap.size = H by simpa [Value.ownBlock] using e) (by omega))
  clear o1 b1 z1 hcs hC hh
  cases nt
  · go_enter Tryf.func8, Tryf.ntmps8
    go_upto_region 2 with (first | refine wpList_build _ (by rfl) 85 #[(9, .tmp 18), (15, .const (.int .i64 (-1))), (16, .const (.int .i64 (-1))), (17, .const (.int .i64 (-1))), (18, .const (.int .i64 (-1))), (20, .const (.int .i64 (-1))), (21, .const (.int .i64 (-1))), (22, .const (.int .i64 (-1))), (23, .const (.int .i64 (-1)))] (by rfl) #[(9, .slice (some ⟨w.heap.size, 0, none⟩) 0 C), (15, .int .i64 (-1)), (16, .int .i64 (-1)), (17, .int .i64 (-1)), (18, .int .i64 (-1)), (20, .int .i64 (-1)), (21, .int .i64 (-1)), (22, .int .i64 (-1)), (23, .int .i64 (-1))] (by simp [go_sem]) cs BL.out ?_ | fail)
    obtain ⟨W, hW⟩ : ∃ W, w1.alloc (.cells cs 85) = W := ⟨_, rfl⟩
    rw [hW] at HH OW BW ⊢
    obtain ⟨v25, e25⟩ := Option.isSome_iff_exists.1 HC.out.2.2.2.2.2.2.2.1
    obtain ⟨v28, e28⟩ := Option.isSome_iff_exists.1 HC.out.2.2.2.2.2.2.2.2
    have dd : ∀ j, W.cell? ⟨H, j, none⟩ = cs[j]? := fun j => by simp [World.cell?, HH.out]
    have ff : ∀ j, W.frozen? ⟨H, j, none⟩ = false := fun j => by simp [World.frozen?, HH.out]
    have d24 := (dd 24).trans HC.out.2.1
    have d30 := (dd 30).trans HC.out.2.2.2.1
    have d25 := (dd 25).trans e25
    have d28 := (dd 28).trans e28
    have f24 := ff 24
    have f25 := ff 25
    have f28 := ff 28
    have f30 := ff 30
    have hlt : H < W.heap.size := lt_of_block HH.out
    clear dd ff hcv hH hW e25 e28
    go_wp2_with (fail)
    go_ret
    refine ⟨H, some ⟨w.heap.size, 0, none⟩, C, rfl, HL.out, ?_, ?_, ?_⟩
    · exact prn_new (mi := mi) (nt := false) rfl HH.out HC.out
    · exact ((((OW.out.set HNE.out).set HNE.out).set HNE.out).set HNE.out)
    · exact ((((BW.out.setCell (p := ⟨H, 24, none⟩) HL.out _).setCell (p := ⟨H, 28, none⟩) HL.out _).setCell (p := ⟨H, 30, none⟩) HL.out _).setCell (p := ⟨H, 25, none⟩) HL.out _)
  · go_enter Tryf.func8, Tryf.ntmps8
    go_upto_region 2 with (first | refine wpList_build _ (by rfl) 85 #[(9, .tmp 18), (15, .const (.int .i64 (-1))), (16, .const (.int .i64 (-1))), (17, .const (.int .i64 (-1))), (18, .const (.int .i64 (-1))), (20, .const (.int .i64 (-1))), (21, .const (.int .i64 (-1))), (22, .const (.int .i64 (-1))), (23, .const (.int .i64 (-1)))] (by rfl) #[(9, .slice (some ⟨w.heap.size, 0, none⟩) 0 C), (15, .int .i64 (-1)), (16, .int .i64 (-1)), (17, .int .i64 (-1)), (18, .int .i64 (-1)), (20, .int .i64 (-1)), (21, .int .i64 (-1)), (22, .int .i64 (-1)), (23, .int .i64 (-1))] (by simp [go_sem]) cs BL.out ?_ | fail)
    obtain ⟨W, hW⟩ : ∃ W, w1.alloc (.cells cs 85) = W := ⟨_, rfl⟩
    rw [hW] at HH OW BW ⊢
    obtain ⟨v25, e25⟩ := Option.isSome_iff_exists.1 HC.out.2.2.2.2.2.2.2.1
    obtain ⟨v28, e28⟩ := Option.isSome_iff_exists.1 HC.out.2.2.2.2.2.2.2.2
    have dd : ∀ j, W.cell? ⟨H, j, none⟩ = cs[j]? := fun j => by simp [World.cell?, HH.out]
    have ff : ∀ j, W.frozen? ⟨H, j, none⟩ = false := fun j => by simp [World.frozen?, HH.out]
    have d24 := (dd 24).trans HC.out.2.1
    have d30 := (dd 30).trans HC.out.2.2.2.1
    have d25 := (dd 25).trans e25
    have d28 := (dd 28).trans e28
    have f24 := ff 24
    have f25 := ff 25
    have f28 := ff 28
    have f30 := ff 30
    have hlt : H < W.heap.size := lt_of_block HH.out
    clear dd ff hcv hH hW e25 e28
    go_wp2_with (fail)
    go_ret
    refine ⟨H, some ⟨w.heap.size, 0, none⟩, C, rfl, HL.out, ?_, ?_, ?_⟩
    · exact prn_new (mi := mi) (nt := true) rfl HH.out HC.out
    · exact ((((OW.out.set HNE.out).set HNE.out).set HNE.out).set HNE.out)
    · exact ((((BW.out.setCell (p := ⟨H, 24, none⟩) HL.out _).setCell (p := ⟨H, 28, none⟩) HL.out _).setCell (p := ⟨H, 30, none⟩) HL.out _).setCell (p := ⟨H, 25, none⟩) HL.out _)
theorem js10 (b : Nat) (m : Bool × Bool) (A : Option Addr) (n c : Nat) (w : World) (hp : Prn w b m (.slice A n c)) : Calls Tryf.prog 10 #[.pointer (some ⟨b, 0, none⟩)] w fun e w' => e = .returned (.slice A n c) ∧ w = w' := by
  have c9 := hp.cell
  clear hp
  go_enter Tryf.func10, Tryf.ntmps10
  go_wp2
  go_ret
  exact ⟨rfl, rfl⟩
theorem pq13 (pb base n c n1 c1 b0 : Nat) (m1 nt ab : Bool) (A B : Option Addr) (l : List UInt8) (U : List Nat) (F : Int) (hF : F = if ab then 1 else 0) (w : World) (hp : Prn w pb (m1, nt) (.slice A n c)) (ho : Own w base 5 (.slice A n c) (bv l)) (hl : n = l.length) (hb : base ≤ w.heap.size)
    (hU : Own w b0 29 (.slice B n1 c1) (uv U)) (hn : n1 = U.length) (hW : Wf U) (hz : l.length + 6 * U.length + 16 ≤ 1073741000) :
    Calls Tryf.prog 13 #[.pointer (some ⟨pb, 0, none⟩), .slice B n1 c1, .int .u8 F] w (Pd pb (m1, nt) (Value.slice A n c).ownBlock base (l ++ Pqt.quoted m1 (ab && !nt) U) w) := by
  subst hF
  cases nt <;> cases ab
  · exact pqF pb base n c n1 c1 b0 m1 A B l U 0 w hp ho hl hb hU hn hW hz
  · exact pqF pb base n c n1 c1 b0 m1 A B l U 1 w hp ho hl hb hU hn hW hz
  · exact pqT pb base n c n1 c1 b0 m1 A B l U 0 0 (by decide) w hp ho hl hb hU hn hW hz
  · exact pqT pb base n c n1 c1 b0 m1 A B l U 1 0 (by decide) w hp ho hl hb hU hn hW hz
theorem quote9 (pb base n c n1 c1 b0 : Nat) (m1 nt ab : Bool) (A B : Option Addr) (l : List UInt8) (U : List Nat) (w : World) (hp : Prn w pb (m1, nt) (.slice A n c)) (ho : Own w base 5 (.slice A n c) (bv l)) (hl : n = l.length) (hb : base ≤ w.heap.size)
    (hU : Own w b0 29 (.slice B n1 c1) (uv U)) (hn : n1 = U.length) (hW : Wf U) (hz : l.length + 6 * U.length + 16 ≤ 1073741000) :
    Calls Tryf.prog 9 #[.pointer (some ⟨pb, 0, none⟩), .slice B n1 c1, .bool ab] w (Pd pb (m1, nt) (Value.slice A n c).ownBlock base (l ++ Pqt.quoted m1 (ab && !nt) U) w) := by
  have H := Lib.hid (fun F hF => pq13 pb base n c n1 c1 b0 m1 nt ab A B l U F hF w hp ho hl hb hU hn hW hz)
  obtain ⟨Q, hQ⟩ : ∃ Q, Q = Pd pb (m1, nt) (Value.slice A n c).ownBlock base (l ++ Pqt.quoted m1 (ab && !nt) U) w := ⟨_, rfl⟩
  have HQ : Hid (∀ e w', Q e w' → e = .returned (.tuple #[]) ∧ Q e w') := Lib.hid (by rw [hQ]; exact fun e w' h => ⟨h.1, h⟩)
  rw [← hQ] at H ⊢
  clear hp ho hl hb hU hn hW hz hQ
  cases ab
  · have H2 := Lib.hid (H.out 0 rfl)
    go_enter Tryf.func9, Tryf.ntmps9
    go_wp2_with (go_at_call 13; refine H2.out.mono ?_; rintro e w' hq; obtain ⟨rfl, hq⟩ := HQ.out _ _ hq; have HH := Lib.hid hq; clear hq)
    go_end0
    exact HH.out
  · have H2 := Lib.hid (H.out 1 rfl)
    go_enter Tryf.func9, Tryf.ntmps9
    go_wp2_with (go_at_call 13; refine H2.out.mono ?_; rintro e w' hq; obtain ⟨rfl, hq⟩ := HQ.out _ _ hq; have HH := Lib.hid hq; clear hq)
    go_end0
    exact HH.out
/-- All in one. -/
def Rn (L : List UInt8) (w : World) (e : Ending) (w' : World) : Prop := ∃ A n c, e = .returned (.slice A n c) ∧ n = L.length ∧ Own w' w.heap.size 5 (.slice A n c) (bv L) ∧ Below w.heap.size w w'
theorem run6 (n1 c1 b0 : Nat) (ab nt mi : Bool) (B : Option Addr) (U : List Nat) (w : World) (hU : Own w b0 29 (.slice B n1 c1) (uv U)) (hn : n1 = U.length) (hW : Wf U) (hz : 6 * U.length + 16 ≤ 1073741000) :
    Calls Tryf.prog 6 #[.slice B n1 c1, .bool ab, .bool nt, .bool mi] w (Rn (Pqt.quoted mi (ab && !nt) U) w) := by
  have H9 := Lib.hid (fun (w1 : World) (pb c : Nat) (A : Option Addr) (hp : Prn w1 pb (mi, nt) (.slice A 0 c)) (ho : Own w1 w.heap.size 5 (.slice A 0 c) (bv [])) (hb : Below w.heap.size w w1) (hpb : w.heap.size ≤ pb) =>
    (quote9 pb w.heap.size 0 c n1 c1 b0 mi nt ab A B [] U w1 hp ho rfl hb.size (hU.keep hb) hn hW (by show 0 + _ + 16 ≤ _; omega)).mono (fun e w2 h => (show e = .returned (.tuple #[]) ∧ ∃ A n c, Prn w2 pb (mi, nt) (.slice A n c) ∧ n = (Pqt.quoted mi (ab && !nt) U).length ∧ Own w2 w.heap.size 5 (.slice A n c) (bv (Pqt.quoted mi (ab && !nt) U)) ∧ Below w.heap.size w w2 by
      obtain ⟨he, A2, n2, c2, h⟩ := h
      exact ⟨he, A2, n2, c2, h.prn, h.len, h.own, hb.trans (h.two.below hb.size (fun g hg => (ho.lt g hg).1) hpb)⟩)))
  clear hU hn hW hz
  go_enter Tryf.func6, Tryf.ntmps6
  go_wp2_with (first | (go_at_call 8; refine (new8 nt mi _).mono ?_; rintro e w1 ⟨pb, A1, c1', rfl, hpb, p1, o1, b1⟩; have T1 := Lib.hid (H9.out w1 pb c1' A1 p1 o1 b1 hpb); clear H9 p1 o1 b1 hpb) | (go_at_call 9; refine T1.out.mono ?_; rintro e w2 ⟨rfl, A2, n2, c2, p2, l2, o2, b2⟩; have T2 := Lib.hid (js10 pb _ A2 n2 c2 w2 p2); have T3 := Lib.hid (And.intro l2 (And.intro o2 b2)); clear T1 p2 l2 o2 b2) | (go_at_call 10; refine T2.out.mono ?_; rintro e w3 ⟨rfl, rfl⟩; clear T2) | fail)
  go_ret
  exact ⟨_, _, _, rfl, T3.out.1, T3.out.2.1, T3.out.2.2⟩
end Go.Proofs.YtpoakndmajoiaaaFmt.Wrp
