/- The walk of the law FnDebugLogsScriptMatchesDepthModel: it returns true for every script. No condition. -/
import Derived.Test.YtcblldmnhnelaaaDlB
import Derived.Deep.QuietTactic
import Derived.BigQuiet
import Derived.IntWalk
import Derived.Deep.DeepCutAuto
namespace Go.Proofs.Ytcblldmnhnelaaa.fnDebugLogsScriptMatchesDepthModel
open Go.ChangeShapes Go.WideShapes Go.ChangeAt Go.RowKit Go.Deep Go.Proofs.Ytcblldmnhnelaaa.Base Go.Proofs.Ytcblldmnhnelaaa.Logs Go.Proofs.Ytcblldmnhnelaaa.Sls Go.Proofs.Ytcblldmnhnelaaa.Dl
set_option linter.unusedVariables false
/-! ### PLAIN: the script's model -/
def stp (tx : Nat → ByteArray) (s : Nat × List (Nat × ByteArray)) (u : UInt8) : Nat × List (Nat × ByteArray) :=
  if u.toNat % 3 = 0 then (s.1, s.2 ++ [(s.1, tx s.2.length)]) else if u.toNat % 3 = 1 then (s.1 + 1, s.2) else (s.1 - 1, s.2)
def run (tx : Nat → ByteArray) (l : List UInt8) : Nat × List (Nat × ByteArray) := l.foldl (stp tx) (0, [])
theorem run_step (tx : Nat → ByteArray) (l : List UInt8) (k : Nat) (h : k < l.length) : run tx (l.take (k + 1)) = stp tx (run tx (l.take k)) l[k] := by
  rw [List.take_succ_eq_append_getElem h]; unfold run; rw [List.foldl_append]; rfl
/-- All that was recorded is within bounds. -/
def Fine (Z : Nat) (s : Nat × List (Nat × ByteArray)) (k : Nat) : Prop := s.1 ≤ k ∧ s.2.length ≤ k ∧ ∀ p ∈ s.2, p.1 ≤ k ∧ p.2.size ≤ Z
theorem fine_run (tx : Nat → ByteArray) (Z : Nat) (htx : ∀ i, (tx i).size ≤ Z) (l : List UInt8) (k : Nat) (hk : k ≤ l.length) : Fine Z (run tx (l.take k)) k := by
  induction k with
  | zero => exact ⟨Nat.le_refl _, Nat.le_refl _, fun p hp => by simp [run] at hp⟩
  | succ k ih =>
    obtain ⟨h1, h2, h3⟩ := ih (by omega)
    rw [run_step tx l k (by omega)]
    generalize run tx (l.take k) = s at h1 h2 h3 ⊢
    unfold stp
    split
    · refine ⟨by show s.1 ≤ _; omega, by simp; omega, fun p hp => ?_⟩
      rcases List.mem_append.1 hp with hp | hp
      · have := h3 p hp; exact ⟨by omega, this.2⟩
      · rw [List.mem_singleton] at hp; subst hp; exact ⟨by show s.1 ≤ _; omega, htx _⟩
    · split
      · exact ⟨by show s.1 + 1 ≤ _; omega, by show s.2.length ≤ _; omega, fun p hp => by have := h3 p hp; exact ⟨by omega, this.2⟩⟩
      · exact ⟨by show s.1 - 1 ≤ _; omega, by show s.2.length ≤ _; omega, fun p hp => by have := h3 p hp; exact ⟨by omega, this.2⟩⟩
def nts (R : List (Nat × ByteArray)) : List ByteArray := R.map fun p => sp (2 * p.1) ++ p.2
def txs (R : List (Nat × ByteArray)) : List ByteArray := R.map (·.2)
def dv (R : List (Nat × ByteArray)) : List Value := R.map fun p => .int .i64 (p.1 : Int)
theorem nts_len (R : List (Nat × ByteArray)) : (nts R).length = R.length := by simp [nts]
theorem txs_len (R : List (Nat × ByteArray)) : (sv (txs R)).length = R.length := by simp [txs, sv]
theorem dv_len (R : List (Nat × ByteArray)) : (dv R).length = R.length := by simp [dv]
theorem nts_snoc (R : List (Nat × ByteArray)) (D : Nat) (s : ByteArray) : nts (R ++ [(D, s)]) = nts R ++ [sp (2 * D) ++ s] := by simp [nts]
theorem txs_snoc (R : List (Nat × ByteArray)) (D : Nat) (s : ByteArray) : sv (txs (R ++ [(D, s)])) = sv (txs R) ++ [.string s] := by simp [txs, sv]
theorem dv_snoc (R : List (Nat × ByteArray)) (D : Nat) (s : ByteArray) : dv (R ++ [(D, s)]) = dv R ++ [.int .i64 (D : Int)] := by simp [dv]
theorem infoI : (Try.prog.info? 3).map (fun i => (i.zero, i.size, i.bytes)) = some (some (.int .i64 0), 1, 8) := by kernel_rfl
theorem kt_app {w w' : World} {base e : Nat} {v : Value} {xs : List Value} {o : Obj} (ho : Own w base e v xs) (hg : (w.alloc o).grownBy w' v.ownBlock) (hb : base ≤ w.heap.size) : Kt e w w' ∧ Below base w w' := by
  have k0 : Kt e (w.alloc o) w' := Kt.of_grown hg (World.ownsRow.alloc ho o)
  exact ⟨fun k cs t hk ht => k0 k cs t (Kt.alloc w o e k cs t hk ht) ht, ((Below.refl base w).alloc hb o).grown hg (by simp; omega) (fun g hg => (ho.lt g hg).1)⟩
theorem one_rd (w : World) (u : Value) (t : Nat) : Rd (w.alloc (.cells #[u] t)) (w.heap.size + 1) (some ⟨w.heap.size, 0, none⟩) [u] := by
  intro _
  refine ⟨_, rfl, by simp, fun i c hi => ?_⟩
  match i, hi with
  | 0, hi => simp at hi; subst hi; simp [Addr.add]
theorem le_alloc {B : Nat} {w : World} (h : B ≤ w.heap.size) (o : Obj) : B ≤ (w.alloc o).heap.size := by simp; omega
theorem one_int (x : Int) : ∀ u ∈ [Value.int .i64 x], u.oneCell' = true := by intro u hu; simp at hu; subst hu; rfl
theorem one_str (x : ByteArray) : ∀ u ∈ [Value.string x], u.oneCell' = true := by intro u hu; simp at hu; subst hu; rfl
theorem make_I (M : Nat) (h : M ≤ 4096) (W : World) : (Instr.makeSlice 31 (.int .i64 0) (.int .i64 (M : Int))).run Try.prog W = .ok (.slice (some ⟨W.heap.size, 0, none⟩) 0 M) (W.alloc (.cells (madeCells #[.int .i64 0] M) 3)) := by
  obtain ⟨i0, hi, hz0, hz1, hz2⟩ := info_parts infoI
  have := run_make (P := Try.prog) W 31 3 i0 _ Try.underlying31 hi hz0 .i64 .i64 0 (M : Int) (by omega) (by omega) (by rw [hz2]; omega) (by omega)
  rw [hz1] at this
  simp only [Int.toNat_natCast, Int.toNat_zero, Nat.mul_one] at this
  exact this
theorem make_S (M : Nat) (h : M ≤ 4096) (W : World) : (Instr.makeSlice 23 (.int .i64 0) (.int .i64 (M : Int))).run Try.prog W = .ok (.slice (some ⟨W.heap.size, 0, none⟩) 0 M) (W.alloc (.cells (madeCells #[.string { data := #[] }] M) 9)) := by
  obtain ⟨i0, hi, hz0, hz1, hz2⟩ := info_parts infoS
  have := run_make (P := Try.prog) W 23 9 i0 _ Try.underlying23 hi hz0 .i64 .i64 0 (M : Int) (by omega) (by omega) (by rw [hz2]; omega) (by omega)
  rw [hz1] at this
  simp only [Int.toNat_natCast, Int.toNat_zero, Nat.mul_one] at this
  exact this
/-- The state of the run: what the log and the two lists hold. -/
structure Sta (d base : Nat) (what : ByteArray) (D : Nat) (R : List (Nat × ByteArray)) (r : Nat) (s6 s7 : Value) (w0 w : World) : Prop where
  log : ∃ AN cN, w.rowIs d 43 3 (dl what (sp (2 * D)) (.slice AN r cN)) ∧ Nts w base (.slice AN r cN) (nts R)
  ints : Own w base 3 s6 (dv R)
  strs : Own w base 9 s7 (sv (txs R))
  bel : Below base w0 w
theorem Sta.note {d base D r : Nat} {what s : ByteArray} {R : List (Nat × ByteArray)} {s6 s7 : Value} {w0 w w1 : World} (h : Sta d base what D R r s6 s7 w0 w) (hr : R.length = r) (hn : Noted d base what (sp (2 * D)) (nts R ++ [sp (2 * D) ++ s]) w w1) :
    (∃ AN cN, w1.rowIs d 43 3 (dl what (sp (2 * D)) (.slice AN (r + 1) cN)) ∧ Nts w1 base (.slice AN (r + 1) cN) (nts (R ++ [(D, s)]))) ∧ Own w1 base 3 s6 (dv R) ∧ Own w1 base 9 s7 (sv (txs R)) ∧ Below base w0 w1 := by
  obtain ⟨A, c, h1, h2, h3, w', k1, k2⟩ := hn
  have e : (nts R ++ [sp (2 * D) ++ s]).length = r + 1 := by rw [List.length_append, nts_len, hr]; rfl
  rw [e] at h1 h2
  refine ⟨⟨A, c, h1, ?_⟩, own_kt (own_kt h.ints k1 (by decide)) k2 (by decide), own_kt (own_kt h.strs k1 (by decide)) k2 (by decide), h.bel.trans h3⟩
  rw [nts_snoc]; exact h2
theorem Sta.turn {d base D D' r : Nat} {what : ByteArray} {R : List (Nat × ByteArray)} {s6 s7 : Value} {w0 w : World} (h : Sta d base what D R r s6 s7 w0 w) (hd : base ≤ d) : Sta d base what D' R r s6 s7 w0 (w.setCell ⟨d, 1, none⟩ (.string (sp (2 * D')))) := by
  obtain ⟨AN, cN, h1, h2⟩ := h.log
  obtain ⟨cs, hcs, _⟩ := id h1
  have k : Kt 43 w (w.setCell ⟨d, 1, none⟩ (.string (sp (2 * D')))) := Kt.set (p := ⟨d, 1, none⟩) hcs _
  exact ⟨⟨AN, cN, (h1.set 1 _).congr (fun i _ => dl_set _ _ _ _ i), h2.kt k (by decide)⟩, own_kt h.ints k (by decide), own_kt h.strs k (by decide), h.bel.setCell (p := ⟨d, 1, none⟩) hd _⟩
theorem rd_keep {w0 w : World} {base : Nat} {A : Option Addr} {xs : List Value} (h : Rd w0 base A xs) (hb : Below base w0 w) : Rd w base A xs := h.below hb
theorem fin7 {d base D r : Nat} {what s : ByteArray} {R : List (Nat × ByteArray)} {A6 A7 AN : Option Addr} {c6 c7 cN : Nat} {w0 w6 w7 : World} {v7 : Value} {o : Obj} (hr : R.length = r) (hs : Own w6 base 9 (.slice A7 r c7) (sv (txs R))) (hi : Own w6 base 3 (.slice A6 (r + 1) c6) (dv R ++ [.int .i64 (D : Int)]))
    (l1 : w6.rowIs d 43 3 (dl what (sp (2 * D)) (.slice AN (r + 1) cN))) (l2 : Nts w6 base (.slice AN (r + 1) cN) (nts (R ++ [(D, s)]))) (hb : Below base w0 w6) (hz : base ≤ w6.heap.size)
    (hg : (w6.alloc o).grownBy w7 (Value.slice A7 r c7).ownBlock) (ho : Own w7 base 9 v7 (sv (txs R) ++ [.string s])) :
    ∃ A7' c7', v7 = .slice A7' (r + 1) c7' ∧ Hid (Sta d base what D (R ++ [(D, s)]) (r + 1) (.slice A6 (r + 1) c6) (.slice A7' (r + 1) c7') w0 w7) := by
  obtain ⟨k7, b7⟩ := kt_app hs hg hz
  obtain ⟨A7', c7', hv7⟩ := ho.form
  rw [← txs_snoc R D, txs_len, List.length_append, hr] at hv7
  subst hv7
  exact ⟨A7', c7', rfl, Lib.hid ⟨⟨AN, cN, row_kt l1 k7 (by decide), l2.kt k7 (by decide)⟩, by rw [dv_snoc]; exact own_kt hi k7 (by decide), by rw [txs_snoc]; exact ho, hb.trans b7⟩⟩
theorem dv_at (R : List (Nat × ByteArray)) (j : Nat) (h : j < R.length) : (dv R)[j]? = some (.int .i64 (R[j].1 : Int)) := by unfold dv; rw [List.getElem?_map, List.getElem?_eq_getElem h]; rfl
theorem txs_at (R : List (Nat × ByteArray)) (j : Nat) (h : j < R.length) : (sv (txs R))[j]? = some (.string R[j].2) := by unfold sv txs; rw [List.getElem?_map, List.getElem?_map, List.getElem?_eq_getElem h]; rfl
theorem _root_.Go.Proofs.Ytcblldmnhnelaaa.Dl.Nts.cell {w : World} {base c r : Nat} {A : Option Addr} {R : List (Nat × ByteArray)} (h : Nts w base (.slice A r c) (nts R)) (j : Nat) (hj : j < R.length) :
    ∃ g, A = some ⟨g, 0, none⟩ ∧ w.cell? ⟨g, j * 4 + 1, none⟩ = some (.pointer none) ∧ w.cell? ⟨g, j * 4 + 2, none⟩ = some (.string (sp (2 * R[j].1) ++ R[j].2)) ∧ w.cell? ⟨g, j * 4 + 3, none⟩ = some (.bool true) := by
  have hjn : j < (nts R).length := by rw [nts_len]; exact hj
  have e : (nts R)[j] = sp (2 * R[j].1) ++ R[j].2 := by simp [nts]
  rcases h.2 with ⟨h1, h0⟩ | ⟨g, cap, cur, hv, _, hh, _⟩
  · omega
  · injection hv with hA _ _
    subst hA
    have ha : ∀ i, (⟨g, 0, none⟩ : Addr).add i = ⟨g, i, none⟩ := fun i => by unfold Addr.add; split <;> simp_all
    have hc := fun i u (hu : (nv (nts R))[i]? = some u) => by
      have := World.ownsRow.cells h (g := g) rfl i u hu
      rw [ha] at this; exact this
    refine ⟨g, rfl, hc _ _ ?_, hc _ _ ?_, hc _ _ ?_⟩
    · rw [nv_at _ j 1 hjn (by omega)]; rfl
    · rw [nv_at _ j 2 hjn (by omega), e]; rfl
    · rw [nv_at _ j 3 hjn (by omega)]; rfl
theorem quiet1 {P : Program} {f : FuncId} {args : Array Value} {w : World} {n : Nat} {v : Value} (h : Calls P f args (w.drewN n) fun e w' => e = .returned v ∧ w.drewN n = w') : Calls P f args (w.drewN n) fun e w'' => e = .returned v ∧ ∃ m, w'' = w.drewN m :=
  h.mono fun _ _ ⟨he, hm⟩ => ⟨he, n, hm.symm⟩
theorem quiet2 {P : Program} {f : FuncId} {args : Array Value} {w : World} {a n : Nat} {v : Value} (h : Calls P f args (w.drewN (a + n)) fun e w' => e = .returned v ∧ w.drewN (a + n) = w') : Calls P f args (w.drewN (a + n)) fun e w'' => e = .returned v ∧ ∃ m, w'' = w.drewN (a + m) :=
  h.mono fun _ _ ⟨he, hm⟩ => ⟨he, n, hm.symm⟩
def scr : ByteArray := { data := #[115, 99, 114, 105, 112, 116] }
set_option maxRecDepth 100000 in
set_option maxHeartbeats 4000000 in
theorem in_range (A0 A1 : Option Addr) (n m c0 c1 : Nat) (l : List UInt8) (tl : List ByteArray) (w : World) (L0 : l.length = n) (L1 : tl.length = m) (hn : n ≤ 4096) (hm : m ≤ 4096) (hz : n + (m + tot tl) ≤ 1048576)
    (e0 : A0 = none → n = 0 ∧ c0 = 0) (e1 : A1 = none → m = 0 ∧ c1 = 0) (r0 : Rd w w.heap.size A0 (bv l)) (r1 : Rd w w.heap.size A1 (sv tl))
    (Y : Calls Try.prog 5 #[.slice A0 n c0, .slice A1 m c1] w (Bd (n + (m + tot tl) ≤ 1048576) w)) :
    Calls Try.prog 3 #[.slice A0 n c0, .slice A1 m c1] w fun e w' => e = .returned (.bool true) ∧ Below w.heap.size w w' := by
  have HY := Lib.hid Y
  have SM := Lib.hid (sum_any A1 m c1 tl w L1 (by omega) r1)
  have UF := Lib.hid (unfold_any A0 n c0 l w L0 hn r0)
  have CB := Lib.hid (cloneB A0 n c0 l w L0 hn e0 r0)
  have CS := Lib.hid (fun (W : World) (hb : Below w.heap.size w W) => cloneS A1 m c1 tl W L1 hm e1 ((r1.below hb).up hb.size))
  obtain ⟨tx, htx⟩ : ∃ tx : Nat → ByteArray, tx = fun i => tl.getD i { data := #[] } := ⟨_, rfl⟩
  have htz : ∀ i, (tx i).size ≤ 1048576 := fun i => by
    rw [htx]
    show (tl.getD i { data := #[] }).size ≤ _
    rcases Nat.lt_or_ge i tl.length with h | h
    · have := tot_mem tl i h
      rw [List.getD_eq_getElem?_getD, List.getElem?_eq_getElem h]
      show tl[i].size ≤ _
      omega
    · rw [List.getD_eq_getElem?_getD, List.getElem?_eq_none h]
      show 0 ≤ _
      omega
  have FI := Lib.hid (fun k (hk : k ≤ l.length) => fine_run tx 1048576 htz l k hk)
  have HTZ := Lib.hid htz; have HTX := Lib.hid htx
  obtain ⟨T, hT⟩ : ∃ T, T = tot tl := ⟨_, rfl⟩
  rw [← hT] at SM hz
  have HL0 := Lib.hid L0; have HL1 := Lib.hid L1
  clear Y L0 L1 e0 e1 r0 r1 htz htx hT
  have hm1 := make_I n hn
  have hm2 := make_S n hn
  go_enter Try.func3, Try.ntmps3
  go_wp2_with fail
  refine HY.out.mono ?_
  rintro e w' ⟨b, rfl, hb, rfl⟩
  clear hb
  cases b
  · clear hm1 hm2
    go_wp2
    go_ret
    exact ⟨rfl, Below.refl _ _⟩
  go_wp2_with fail
  refine SM.out.mono ?_
  rintro e w' ⟨rfl, rfl⟩
  by_cases hbig : 1048576 < n + (8 * m + T)
  · clear hm1 hm2
    go_wp2
    go_ret
    exact ⟨rfl, Below.refl _ _⟩
  go_wp2_with fail
  refine UF.out.mono ?_
  rintro e w' ⟨⟨uf, rfl⟩, rfl⟩
  by_cases hbig2 : 8388608 < uf
  · clear hm1 hm2
    go_wp2
    go_ret
    exact ⟨rfl, Below.refl _ _⟩
  go_wp2_with fail
  refine CB.out.mono ?_
  rintro e w1 ⟨A0', c0', rfl, O0, b1⟩
  have C2 := Lib.hid (CS.out w1 b1)
  have HO0 := Lib.hid O0; have HB1 := Lib.hid b1
  clear O0 b1
  go_wp2_with fail
  refine C2.out.mono ?_
  rintro e w2 ⟨A1', c1', rfl, O1, b2⟩
  have RD0 := Lib.hid (HO0.out.keep b2).rd
  have RD1 := Lib.hid O1.rd
  have HB2 := Lib.hid (below_join HB1.out HB1.out.size b2)
  clear O1 b2
  go_wp2_with fail
  refine (new_any scr w2).mono ?_
  rintro e w3 ⟨rfl, rfl⟩
  have NR := new_row scr w2
  have BN := (Below.refl w2.heap.size w2).alloc (Nat.le_refl _) (.cells #[.string scr, .string { data := #[] }, .slice none 0 0] 43)
  generalize w2.alloc (.cells #[.string scr, .string { data := #[] }, .slice none 0 0] 43) = w3 at NR BN ⊢
  have z3 := NR.lt
  have HNR := Lib.hid NR; have HBN := Lib.hid BN
  clear NR BN
  go_wp2
  clear hm1 hm2
  have S0 : Sta w2.heap.size w2.heap.size scr 0 [] 0 (.slice (some ⟨w3.heap.size, 0, none⟩) 0 n) (.slice (some ⟨w3.heap.size + 1, 0, none⟩) 0 n) w2 ((w3.alloc (.cells (madeCells #[.int .i64 0] n) 3)).alloc (.cells (madeCells #[.string { data := #[] }] n) 9)) := by
    refine ⟨⟨none, 0, (HNR.out.alloc _).alloc _, World.ownsRow_nil _ _ _ _⟩, ?_, ?_, ?_⟩
    · exact World.ownsRow.alloc (World.ownsRow_made w3 _ n (by omega) (by unfold maxLen; omega) (by rw [size_madeCells, Nat.mul_one])) _
    · have := World.ownsRow_made (base := w2.heap.size) (e := 9) (size := 1) (w3.alloc (.cells (madeCells #[.int .i64 0] n) 3)) (madeCells #[.string { data := #[] }] n) n (by simp; omega) (by unfold maxLen; omega) (by rw [size_madeCells, Nat.mul_one])
      rw [World.size_alloc] at this
      exact this
    · exact (HBN.out.alloc HBN.out.size _).alloc (by have := HBN.out.size; simp; omega) _
  have HS0 := Lib.hid S0
  clear S0
  generalize (w3.alloc (.cells (madeCells #[.int .i64 0] n) 3)).alloc (.cells (madeCells #[.string { data := #[] }] n) 9) = w4 at HS0 ⊢
  go_loopw [6, 7, 8, 9, 10] (fun a b c e i wr => ∃ (k D r : Nat) (R : List (Nat × ByteArray)) (A6 : Option Addr) (c6 : Nat) (A7 : Option Addr) (c7 : Nat), k ≤ n ∧ D ≤ k ∧ r ≤ k ∧ a = .slice A6 r c6 ∧ b = .slice A7 r c7 ∧ c = .int .i64 D ∧ e = .int .i64 r ∧ i = .int .i64 k ∧ Hid (run tx (l.take k) = (D, R)) ∧ Hid (R.length = r) ∧ Hid (Sta w2.heap.size w2.heap.size scr D R r (.slice A6 r c6) (.slice A7 r c7) w2 wr)) (fun _ _ _ _ i _ => n - (intOf i).toNat)
  case atStart => exact ⟨0, 0, 0, [], _, _, _, _, by omega, by omega, by omega, rfl, rfl, rfl, rfl, rfl, Lib.hid rfl, Lib.hid rfl, HS0⟩
  case round =>
    obtain ⟨k, D, r, R, A6, c6, A7, c7, hk, hD, hr, rfl, rfl, rfl, rfl, rfl, HRUN, HRL, HST⟩ := hrel
    have hwb := HST.out.bel.size
    by_cases hlt : k < n
    · have hkl : k < l.length := by rw [HL0.out]; exact hlt
      have hst := run_step tx l k hkl
      rw [HRUN.out] at hst
      obtain ⟨x, rfl, hxb, cx⟩ := (rd_keep RD0.out HST.out.bel).at_ (bv_at l k hkl)
      have hu := UInt8.toNat_lt l[k]
      have HSTEP := Lib.hid hst
      clear hst
      obtain ⟨u, hu0⟩ : ∃ u, u = l[k].toNat := ⟨_, rfl⟩
      rw [← hu0] at cx hu
      have HU := Lib.hid hu0
      clear hu0
      have r3 : u % 3 = 0 ∨ u % 3 = 1 ∨ u % 3 = 2 := by omega
      rcases r3 with h | h | h
      · have e0 : ((u : Int) % 3 == 0) = true := by rw [beq_iff_eq]; omega
        have HN2 : Hid (run tx (l.take (k + 1)) = (D, R ++ [(D, tx r)])) := Lib.hid (by
          rw [HSTEP.out]; unfold stp; rw [← HU.out, if_pos h, HRL.out])
        clear h
        obtain ⟨AN, cN, hrow, hnts⟩ := HST.out.log
        have hil : (sp (2 * D)).size = 2 * D := sp_size _
        have hrl := HTZ.out r
        have NA := Lib.hid (note_any w2.heap.size w2.heap.size r cN AN scr (sp (2 * D)) (tx r) (nts R) wr (by rw [nts_len, HRL.out]) (by omega) (by rw [sp_size]; omega) (Nat.le_refl _) hrow hnts hwb)
        clear hrow hnts hil
        obtain ⟨s, hs⟩ : ∃ s, s = tx r := ⟨_, rfl⟩
        rw [← hs] at HN2 NA hrl
        have HS := Lib.hid hs
        clear hs
        have LEN6 : (dv R).length + 1 ≤ 1073741824 := by rw [dv_len, HRL.out]; omega
        have LEN7 : (sv (txs R)).length + 1 ≤ 1073741824 := by rw [txs_len, HRL.out]; omega
        by_cases hrm : r < m
        · obtain ⟨y, hy, hyb, cy0⟩ := (rd_keep RD1.out HST.out.bel).at_ (sv_at tl r (by rw [HL1.out]; exact hrm))
          obtain rfl := hy
          have cy : wr.cell? (y.add r) = some (.string s) := by
            rw [cy0, HS.out, HTX.out]
            show _ = some (Value.string (tl.getD r { data := #[] }))
            rw [List.getD_eq_getElem?_getD, List.getElem?_eq_getElem (by rw [HL1.out]; exact hrm)]; rfl
          clear cy0 hyb
          go_wp2_with fail
          refine NA.out.mono ?_
          rintro e w5 ⟨rfl, hno⟩
          obtain ⟨hlog, hi5, hs5, hb5⟩ := HST.out.note HRL.out hno
          have z5 := hb5.size
          have LOG := Lib.hid hlog; have HI5 := Lib.hid hi5; have HS5 := Lib.hid hs5; have HB5 := Lib.hid hb5
          clear hno hlog hi5 hs5 hb5
          go_upto_region 30 with (at_builtin; refine append_any _ rfl (.tmp 81) (.tmp 83) 31 3 rfl w2.heap.size Try.underlying31 (.int .i64 0) 8 rfl (by omega) infoI (.slice A6 r c6) (dv R) rfl (HI5.out.alloc _) (w5.heap.size + 1) (some ⟨w5.heap.size, 0, none⟩) 1 1 [.int .i64 (D : Int)] rfl rfl (one_rd _ _ _) (one_int _) LEN6 (le_alloc z5 _) ?_; intro v6 w6 o6 g6 at6)
          obtain ⟨k6, b6⟩ := kt_app HI5.out g6 z5
          have hs6 := own_kt HS5.out k6 (by decide)
          obtain ⟨AN', cN', l1, l2⟩ := LOG.out
          have l1' := row_kt l1 k6 (by decide)
          have l2' := l2.kt k6 (by decide)
          have hb6 := HB5.out.trans b6
          have z6 := hb6.size
          obtain ⟨A6', c6', hv6⟩ := o6.form
          rw [← dv_snoc R D s, dv_len, List.length_append, HRL.out] at hv6
          subst hv6
          have O6 := Lib.hid o6; have HS6 := Lib.hid hs6; have L1 := Lib.hid l1'; have L2 := Lib.hid l2'; have HB6 := Lib.hid hb6
          clear o6 g6 at6 k6 b6 hs6 l1 l2 l1' l2' hb6
          go_wp2_with (at_builtin; refine append_any _ rfl (.tmp 85) (.tmp 87) 23 9 rfl w2.heap.size Try.underlying23 (.string { data := #[] }) 16 rfl (by omega) infoS (.slice A7 r c7) (sv (txs R)) rfl (HS6.out.alloc _) (w6.heap.size + 1) (some ⟨w6.heap.size, 0, none⟩) 1 1 [.string s] rfl rfl (one_rd _ _ _) (one_str _) LEN7 (le_alloc z6 _) ?_; intro v7 w7 o7 g7 at7; have P7 := fin7 HRL.out HS6.out O6.out L1.out L2.out HB6.out z6 g7 o7; clear o7 g7 at7; obtain ⟨A7', c7', hv7, FS⟩ := P7; subst hv7)
          go_roundw
          case rel => exact ⟨k + 1, D, r + 1, R ++ [(D, s)], A6', c6', A7', c7', by omega, by omega, by omega, rfl, rfl, rfl, by go_num, by go_num, HN2, Lib.hid (by rw [List.length_append, HRL.out]; rfl), FS⟩
          case measure => simp [intOf]; omega
        · have hse : s = { data := #[] } := by
            rw [HS.out, HTX.out]
            show tl.getD r { data := #[] } = _
            rw [List.getD_eq_getElem?_getD, List.getElem?_eq_none (by rw [HL1.out]; omega)]; rfl
          subst hse
          go_wp2_with fail
          refine NA.out.mono ?_
          rintro e w5 ⟨rfl, hno⟩
          obtain ⟨hlog, hi5, hs5, hb5⟩ := HST.out.note HRL.out hno
          have z5 := hb5.size
          have LOG := Lib.hid hlog; have HI5 := Lib.hid hi5; have HS5 := Lib.hid hs5; have HB5 := Lib.hid hb5
          clear hno hlog hi5 hs5 hb5
          go_upto_region 30 with (at_builtin; refine append_any _ rfl (.tmp 81) (.tmp 83) 31 3 rfl w2.heap.size Try.underlying31 (.int .i64 0) 8 rfl (by omega) infoI (.slice A6 r c6) (dv R) rfl (HI5.out.alloc _) (w5.heap.size + 1) (some ⟨w5.heap.size, 0, none⟩) 1 1 [.int .i64 (D : Int)] rfl rfl (one_rd _ _ _) (one_int _) LEN6 (le_alloc z5 _) ?_; intro v6 w6 o6 g6 at6)
          obtain ⟨k6, b6⟩ := kt_app HI5.out g6 z5
          have hs6 := own_kt HS5.out k6 (by decide)
          obtain ⟨AN', cN', l1, l2⟩ := LOG.out
          have l1' := row_kt l1 k6 (by decide)
          have l2' := l2.kt k6 (by decide)
          have hb6 := HB5.out.trans b6
          have z6 := hb6.size
          obtain ⟨A6', c6', hv6⟩ := o6.form
          rw [← dv_snoc R D { data := #[] }, dv_len, List.length_append, HRL.out] at hv6
          subst hv6
          have O6 := Lib.hid o6; have HS6 := Lib.hid hs6; have L1 := Lib.hid l1'; have L2 := Lib.hid l2'; have HB6 := Lib.hid hb6
          clear o6 g6 at6 k6 b6 hs6 l1 l2 l1' l2' hb6
          go_wp2_with (at_builtin; refine append_any _ rfl (.tmp 85) (.tmp 87) 23 9 rfl w2.heap.size Try.underlying23 (.string { data := #[] }) 16 rfl (by omega) infoS (.slice A7 r c7) (sv (txs R)) rfl (HS6.out.alloc _) (w6.heap.size + 1) (some ⟨w6.heap.size, 0, none⟩) 1 1 [.string { data := #[] }] rfl rfl (one_rd _ _ _) (one_str _) LEN7 (le_alloc z6 _) ?_; intro v7 w7 o7 g7 at7; have P7 := fin7 HRL.out HS6.out O6.out L1.out L2.out HB6.out z6 g7 o7; clear o7 g7 at7; obtain ⟨A7', c7', hv7, FS⟩ := P7; subst hv7)
          go_roundw
          case rel => exact ⟨k + 1, D, r + 1, R ++ [(D, { data := #[] })], A6', c6', A7', c7', by omega, by omega, by omega, rfl, rfl, rfl, by go_num, by go_num, HN2, Lib.hid (by rw [List.length_append, HRL.out]; rfl), FS⟩
          case measure => simp [intOf]; omega
      · have e0 : ((u : Int) % 3 == 0) = false := by rw [beq_eq_false_iff_ne]; omega
        have e1 : ((u : Int) % 3 == 1) = true := by rw [beq_iff_eq]; omega
        have HN2 : Hid (run tx (l.take (k + 1)) = (D + 1, R)) := Lib.hid (by
          rw [HSTEP.out]; unfold stp; rw [← HU.out, if_neg (by omega), if_pos h])
        clear h
        obtain ⟨AN, cN, hrow, hnts⟩ := HST.out.log
        have I := inc_any w2.heap.size _ _ _ wr hrow (by rw [sp_size]; omega)
        rw [sp_more, show 2 * D + 2 = 2 * (D + 1) by omega] at I
        have HI := Lib.hid I
        have FS := Lib.hid (HST.out.turn (D' := D + 1) (Nat.le_refl _))
        clear I hrow hnts
        go_wp2_with fail
        refine HI.out.mono ?_
        rintro e w5 ⟨rfl, rfl⟩
        generalize wr.setCell ⟨w2.heap.size, 1, none⟩ (.string (sp (2 * (D + 1)))) = w5 at FS ⊢
        go_wp2
        go_roundw
        case rel => exact ⟨k + 1, D + 1, r, R, A6, c6, A7, c7, by omega, by omega, by omega, rfl, rfl, by go_num, rfl, by go_num, HN2, HRL, FS⟩
        case measure => simp [intOf]; omega
      · have e0 : ((u : Int) % 3 == 0) = false := by rw [beq_eq_false_iff_ne]; omega
        have e1 : ((u : Int) % 3 == 1) = false := by rw [beq_eq_false_iff_ne]; omega
        have HN2 : Hid (run tx (l.take (k + 1)) = (D - 1, R)) := Lib.hid (by
          rw [HSTEP.out]; unfold stp; rw [← HU.out, if_neg (by omega), if_neg (by omega)])
        clear h
        by_cases hD0 : 0 < D
        · obtain ⟨D', rfl⟩ : ∃ D', D = D' + 1 := ⟨D - 1, by omega⟩
          obtain ⟨AN, cN, hrow, hnts⟩ := HST.out.log
          have I := dec_any w2.heap.size _ _ _ wr hrow (by rw [sp_size]; omega) (by rw [sp_size]; omega)
          rw [sp_size, sp_less (2 * D') (2 * (D' + 1)) (by omega)] at I
          have HI := Lib.hid I
          have FS := Lib.hid (HST.out.turn (D' := D') (Nat.le_refl _))
          clear I hrow hnts
          go_wp2_with fail
          refine HI.out.mono ?_
          rintro e w5 ⟨rfl, rfl⟩
          generalize wr.setCell ⟨w2.heap.size, 1, none⟩ (.string (sp (2 * D'))) = w5 at FS ⊢
          go_wp2
          go_roundw
          case rel => exact ⟨k + 1, D', r, R, A6, c6, A7, c7, by omega, by omega, by omega, rfl, rfl, by go_num, rfl, by go_num, HN2, HRL, FS⟩
          case measure => simp [intOf]; omega
        · obtain rfl : D = 0 := by omega
          go_wp2
          go_roundw
          case rel => exact ⟨k + 1, 0, r, R, A6, c6, A7, c7, by omega, by omega, by omega, rfl, rfl, by go_num, rfl, by go_num, HN2, HRL, HST⟩
          case measure => simp [intOf]; omega
    · obtain rfl : k = n := by omega
      have hrun : run tx l = (D, R) := by
        have := HRUN.out
        rw [List.take_of_length_le (by rw [HL0.out]; omega)] at this; exact this
      have hfi := FI.out l.length (Nat.le_refl _)
      rw [List.take_length, hrun] at hfi
      have HFI := Lib.hid hfi.2.2
      obtain ⟨AN, cN, hrow, hnts⟩ := HST.out.log
      have I14 := Lib.hid (indent_any w2.heap.size _ _ _ wr hrow)
      have S15 := Lib.hid (spaces_any (sp (2 * D)) wr (by rw [sp_size]; omega) (sp_spaces _))
      have N16 := Lib.hid (notes_any w2.heap.size _ _ _ _ _ wr hrow)
      have HNT := Lib.hid hnts
      have R6 := Lib.hid HST.out.ints.rd
      have R7 := Lib.hid HST.out.strs.rd
      have HBZ := Lib.hid (HB2.out.trans (HST.out.bel.mono HB2.out.size))
      have hsz : (sp (2 * D)).size = 2 * D := sp_size _
      have f0 : ((2 : Int) * (D : Int) != 2 * (D : Int)) = false := by simp
      have f00 : (((2 * D : Nat) : Int) != 2 * (D : Int)) = false := by rw [bne_eq_false_iff_eq]; omega
      have f1 : ((r : Int) != (r : Int)) = false := by simp
      clear hrow hnts hrun hfi
      go_wp2_with fail
      refine I14.out.mono ?_
      rintro e w' ⟨rfl, rfl⟩
      go_wp2_with fail
      refine S15.out.mono ?_
      rintro e w' ⟨rfl, rfl⟩
      go_wp2_with fail
      refine N16.out.mono ?_
      rintro e w' ⟨rfl, rfl⟩
      obtain ⟨w6, rfl⟩ : ∃ wo : World, wo = wr := ⟨_, rfl⟩
      clear hsz f0 f00
      go_wp2
      go_loopw [14] (fun i wr' => ∃ (j q : Nat), j ≤ r ∧ i = .int .i64 j ∧ wr' = w6.drewN q) (fun i _ => r - (intOf i).toNat)
      case atStart => exact ⟨0, 0, by omega, rfl, rfl⟩
      case round =>
        obtain ⟨j, q, hj, rfl, rfl⟩ := hrel
        by_cases hlt2 : j < r
        · have hjR : j < R.length := by rw [HRL.out]; exact hlt2
          obtain ⟨x6, rfl, _, cx6⟩ := R6.out.at_ (dv_at R j hjR)
          obtain ⟨x7, rfl, _, cx7⟩ := R7.out.at_ (txs_at R j hjR)
          obtain ⟨g, rfl, n1, n2, n3⟩ := HNT.out.cell j hjR
          have hb := HFI.out _ (List.getElem_mem hjR)
          generalize R[j] = pj at cx6 cx7 n2 hb
          obtain ⟨dj, tj⟩ := pj
          obtain ⟨hb1, hb2⟩ := hb
          simp only at cx6 cx7 n2 hb1 hb2
          have hdj : dj ≤ 4096 := by have := HL0.out; omega
          obtain ⟨s, hs⟩ : ∃ s, s = sp (2 * dj) ++ tj := ⟨_, rfl⟩
          rw [← hs] at n2
          have hss : s.size = 2 * dj + tj.size := by rw [hs, ← len_list, list_append, List.length_append, len_list, len_list, sp_size]
          have ex0 : s.extract 0 (2 * dj) = sp (2 * dj) := by
            apply ext_list; rw [Lib.extract_data, hs, list_append, List.drop_zero, Nat.sub_zero, List.take_left' (by rw [len_list, sp_size])]
          have ex1 : s.extract (2 * dj) s.size = tj := by
            apply ext_list
            rw [Lib.extract_data, hs, list_append, List.drop_left' (by rw [len_list, sp_size])]
            exact List.take_of_length_le (by rw [← hs, hss, len_list]; omega)
          have EX0 := Lib.hid ex0
          have fl : ((s.size : Int) != 2 * (dj : Int) + (tj.size : Int)) = false := by rw [bne_eq_false_iff_eq]; omega
          have zs : s.size ≤ 1056768 := by omega
          have y1 : (0 : Int) ≤ 2 * (dj : Int) := by omega
          have y2 : 2 * (dj : Int) ≤ (s.size : Int) := by omega
          have y3 : (2 * (dj : Int)).toNat = 2 * dj := by omega
          have x1 : (0 : Int) ≤ (j : Int) := by omega
          have x2 : (j : Int) < (r : Int) := by omega
          have QS := Lib.hid (fun W => spaces_any (sp (2 * dj)) W (by rw [sp_size]; omega) (sp_spaces _))
          have qt : (tj.toList != tj.toList) = false := by simp
          have qt2 : (!tj.toList == tj.toList) = false := by simp
          have HSS := Lib.hid hss
          clear hs hss ex0
          go_wp2
          go_quiet ((go_at_call 15; rw [EX0.out]; first | exact quiet2 (QS.out _) | exact quiet1 (QS.out _)))
          clear ex1
          go_wp2
          go_roundw
          case rel => exact ⟨j + 1, _, by omega, by go_num, rfl⟩
          case measure => simp [intOf]; omega
        · have HB3 := Lib.hid (below_draws HBZ.out q)
          go_wp2
          go_ret
          exact ⟨rfl, HB3.out⟩
set_option maxRecDepth 100000 in
theorem walk (a0 : Option Addr) (len0 cap0 : Nat) (z0 : List Int) (a1 : Option Addr) (len1 cap1 : Nat) (z1 : List ByteArray) (w : World) (w0 : IsRow .u8 w a0 len0 cap0 z0) (w1 : IsStrs w a1 len1 cap1 z1) :
    Calls Try.prog 3 #[.slice a0 len0 cap0, .slice a1 len1 cap1] w fun e w' => e = .returned (.bool true) ∧ Below w.heap.size w w' := by
  obtain ⟨⟨l0, L0, r0⟩, e0, g0⟩ := rd_of_bytes w0
  obtain ⟨⟨l1, L1, r1, m1⟩, e1, g1⟩ := rd_of_strs w1
  have hy := bytes5 a0 len0 cap0 a1 len1 cap1 l1 w g0 L1 g1 r1 m1
  by_cases hz : len0 + (len1 + tot l1) ≤ 1048576
  · by_cases hn : len0 ≤ 4096 ∧ len1 ≤ 4096
    · exact in_range a0 a1 len0 len1 cap0 cap1 l0 l1 w L0 L1 hn.1 hn.2 hz e0 e1 r0 r1 hy
    · have HY := Lib.hid hy
      have d0 : 4096 < len0 ∨ len0 ≤ 4096 ∧ 4096 < len1 := by omega
      have n0 : len0 ≤ 1048576 := by omega
      have n1 : len1 ≤ 1048576 := by omega
      clear hy w0 w1 L0 r0 e0 g0 L1 r1 m1 e1 g1 hz hn
      rcases d0 with d | ⟨d, d'⟩
      all_goals
        go_enter Try.func3, Try.ntmps3
        go_wp2_with fail
        refine HY.out.mono ?_
        rintro e w' ⟨b, rfl, hb, rfl⟩
        clear hb
        cases b
        · go_wp2
          go_ret
          exact ⟨rfl, Below.refl _ _⟩
        · go_wp2
          go_ret
          exact ⟨rfl, Below.refl _ _⟩
  · have H := Lib.hid hy
    have HZ := Lib.hid hz
    clear hy hz w0 w1 L0 r0 e0 g0 L1 r1 m1 e1 g1
    go_enter Try.func3, Try.ntmps3
    go_wp2_with fail
    refine H.out.mono ?_
    rintro e w' ⟨b, rfl, hb, rfl⟩
    cases b
    · clear hb
      go_wp2
      go_ret
      exact ⟨rfl, Below.refl _ _⟩
    · exact absurd (hb rfl) HZ.out
end Go.Proofs.Ytcblldmnhnelaaa.fnDebugLogsScriptMatchesDepthModel
