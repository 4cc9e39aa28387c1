/- Fallback resolution by its contracts: the bounds, a least of three, a dependency and a pool entry put, the resolution. Conditions: lengths. -/
import Derived.Test.YtohhbnfbdeidbaaFmtPnp
import Derived.Test.YtohhbnfbdeidbaaFmtSls
import Derived.Deep.QuietTactic
import Derived.BigQuiet
namespace Go.Proofs.YtohhbnfbdeidbaaFmt.Rva
open Go.RowKit Go.Maps Go.Proofs.YtohhbnfbdeidbaaFmt.Base Go.Proofs.YtohhbnfbdeidbaaFmt.Mps Go.Proofs.YtohhbnfbdeidbaaFmt.Pnp Go.Proofs.YtohhbnfbdeidbaaFmt.Sls
set_option linter.unusedVariables false
/-- A sum of lengths, cut off. -/
def Sm (w : World) (e : Ending) (w' : World) : Prop := ∃ m : Nat, m ≤ 2097152 ∧ e = .returned (.int .i64 m) ∧ w = w'
theorem sum13 (A : Option Addr) (n c : Nat) (l : List ByteArray) (w : World) (hl : l.length = n) (hn : n ≤ 1048576) (hs : ∀ s ∈ l, s.size ≤ 1048576) (hr : Rd w w.heap.size A (sv l)) :
    Calls Tryf.prog 13 #[.slice A n c] w (Sm w) := by
  have HL := Lib.hid hl; have HR := Lib.hid hr; have HS := Lib.hid hs
  clear hl hr hs
  go_enter Tryf.func13, Tryf.ntmps13
  go_wp2
  go_loop [3, 4] (fun z i => ∃ k m : Nat, k ≤ n ∧ m ≤ 1048576 ∧ i = .int .i64 k ∧ z = .int .i64 m) (fun _ i => n - (intOf i).toNat)
  case atStart => exact ⟨0, 0, by omega, by omega, rfl, rfl⟩
  case round =>
    obtain ⟨k, m, hk, hm, rfl, rfl⟩ := hrel
    by_cases hlt : k < n
    · have hkl : k < l.length := by rw [HL.out]; exact hlt
      obtain ⟨x, rfl, hxb, cx⟩ := HR.out.at_ (sv_at l k hkl)
      have hz := HS.out _ (List.getElem_mem hkl)
      obtain ⟨s, hs⟩ : ∃ s, s = l[k] := ⟨_, rfl⟩
      rw [← hs] at cx hz
      clear hs
      go_wp2
      all_goals try (go_ret; exact ⟨2097152, by omega, rfl, rfl⟩)
      go_round
      case rel => exact ⟨k + 1, m + (16 + s.size), by omega, by omega, by go_num, by go_num⟩
      case measure => simp [intOf]; omega
    · obtain rfl : k = n := by omega
      go_wp2
      go_ret
      exact ⟨m, by omega, rfl, rfl⟩
theorem min15 (a b c : Nat) (w : World) (ha : a ≤ 1048576) (hb : b ≤ 1048576) (hc : c ≤ 1048576) :
    Calls Tryf.prog 15 #[.int .i64 a, .int .i64 b, .int .i64 c] w fun e w' => e = .returned (.int .i64 ((min (min a b) c : Nat) : Int)) ∧ w = w' := by
  obtain ⟨m, hm⟩ : ∃ m, m = min (min a b) c := ⟨_, rfl⟩
  rw [← hm]
  have HM := Lib.hid hm
  clear hm
  go_enter Tryf.func15, Tryf.ntmps15
  go_wp2
  all_goals (go_ret; exact ⟨ret_int (by have := HM.out; omega), rfl⟩)
/-- An ident and a reference. -/
def ref (i r : ByteArray) : Value := .agg #[.string i, .string r, .int .i32 0, .int .i32 0]
theorem field55 (d : Value) (loc : ByteArray) (a b : Int) (c : Bool) (w : World) : (Instr.field 55 (.agg #[d, .string loc, .int .i32 a, .int .i32 b, .bool c]) 0).run Tryf.prog w = .ok d w := by kernel_rfl
def PutD (b M Q I D nD : Nat) (h : ByteArray → Option Value) (n : ByteArray) (v : Value) (w : World) (e : Ending) (w' : World) : Prop :=
  e = .returned (.tuple #[]) ∧ MI w' D (nD + 1) (upd h n v) ∧ w.grownBy w' (some D)
set_option maxRecDepth 100000 in
theorem dep16 (b M Q I D nM nI nD : Nat) (f g h : ByteArray → Option Value) (i r loc n di dr : ByteArray) (w : World) (hman : Man w b M Q) (hm : MI w M nM f) (hf : f i = some (.map (some I))) (hi : MI w I nI g) (hg : g r = some (pkg (some D) loc)) (hd : MI w D nD h) (hn : nD ≤ 4194304) (hs : i.size ≤ maxLen) (hr : r.size ≤ maxLen) (hnm : n.size ≤ maxLen) :
    Calls Tryf.prog 16 #[.pointer (some ⟨b, 0, none⟩), .string i, .string r, .string n, .string di, .string dr] w (PutD b M Q I D nD h n (ref di dr) w) := by
  have c4 := hman.reg
  have hb := hman.lt
  have HM := Lib.hid hm; have HI := Lib.hid hi; have HF := Lib.hid hf; have HG := Lib.hid hg; have HD := Lib.hid hd
  have hmx : nD < maxLen := by unfold maxLen; omega
  clear hman hm hi hf hg hd
  unfold pkg at HG
  have hfl := fun (w : World) => field55 (.map (some D)) loc 0 0 false w
  go_enter Tryf.func16, Tryf.ntmps16
  go_wp2_with (first | (at_lookup; refine wp_hit1 _ rfl (.tmp 15) (.tmp 16) 38 rfl Tryf.underlying9 Tryf.underlying38 (.map none) (zero49 _) M nM f rfl HM.out i rfl hs _ HF.out ?_) | (at_lookup; refine wp_hit1 _ rfl (.tmp 17) (.tmp 18) 49 rfl Tryf.underlying9 Tryf.underlying49 _ (zero55 _) I nI g rfl HI.out r rfl hr (.agg #[.map (some D), .string loc, .int .i32 0, .int .i32 0, .bool false]) HG.out ?_) | (at_mapUpdate; refine wp_store _ rfl _ _ _ 39 rfl Tryf.underlying9 Tryf.underlying39 D nD h rfl HD.out hmx n rfl hnm (.agg #[.string di, .string dr, .int .i32 0, .int .i32 0]) rfl ?_; intro w1 hm1 hg1))
  have HM1 := Lib.hid hm1; have HG1 := Lib.hid hg1
  clear hm1 hg1
  go_wp2
  go_end0
  exact ⟨rfl, HM1.out, HG1.out⟩
def PutQ (Q nQ : Nat) (p : ByteArray → Option Value) (n : ByteArray) (v : Value) (w : World) (e : Ending) (w' : World) : Prop :=
  e = .returned (.tuple #[]) ∧ MI w' Q (nQ + 1) (upd p n v) ∧ w.grownBy w' (some Q)
theorem pool17 (b M Q nQ : Nat) (p : ByteArray → Option Value) (n di dr : ByteArray) (w : World) (hman : Man w b M Q) (hd : MI w Q nQ p) (hn : nQ ≤ 4194304) (hnm : n.size ≤ maxLen) :
    Calls Tryf.prog 17 #[.pointer (some ⟨b, 0, none⟩), .string n, .string di, .string dr] w (PutQ Q nQ p n (ref di dr) w) := by
  have c1 := hman.pool
  have hb := hman.lt
  have HD := Lib.hid hd
  have hmx : nQ < maxLen := by unfold maxLen; omega
  clear hman hd
  go_enter Tryf.func17, Tryf.ntmps17
  go_wp2_with (at_mapUpdate; refine wp_store _ rfl _ _ _ 39 rfl Tryf.underlying9 Tryf.underlying39 Q nQ p rfl HD.out hmx n rfl hnm (.agg #[.string di, .string dr, .int .i32 0, .int .i32 0]) rfl ?_; intro w1 hm1 hg1)
  have HM1 := Lib.hid hm1; have HG1 := Lib.hid hg1
  clear hm1 hg1
  go_wp2
  go_end0
  exact ⟨rfl, HM1.out, HG1.out⟩
theorem bcell2 {W w1 : World} {B : Nat} (hb : Below B W w1) : (∀ b o, b < B → w1.cell? ⟨b, o, none⟩ = W.cell? ⟨b, o, none⟩) ∧ (∀ b o, b < B → w1.frozen? ⟨b, o, none⟩ = W.frozen? ⟨b, o, none⟩) :=
  ⟨fun b o h => hb.cell (p := ⟨b, o, none⟩) h, fun b o h => hb.frozen (p := ⟨b, o, none⟩) h⟩
/-- What the resolution hands back. -/
def Res (v : Value) (ok : Bool) (w : World) (e : Ending) (w' : World) : Prop := e = .returned (.tuple #[v, .bool ok]) ∧ Below w.heap.size w w'
/-- The world as the resolution has laid its receiver and its result. -/
def ent (w : World) : World := (w.alloc (.cells #[.pointer none, .pointer none, .pointer none, .int .u8 0] 62)).alloc (.cells #[.string { data := #[] }, .string { data := #[] }, .int .i32 0, .int .i32 0] 65)
theorem ent_size (w : World) : (ent w).heap.size = w.heap.size + 2 := by simp [ent]
theorem ent_below (w : World) : Below w.heap.size w (ent w) := ((Below.refl _ _).alloc (Nat.le_refl _) _).alloc (by simp) _
structure Laid (w w1 : World) : Prop where
  q2 : w1.cell? ⟨w.heap.size, 2, none⟩ = some (.pointer none)
  c0 : w1.cell? ⟨w.heap.size + 1, 0, none⟩ = some (.string { data := #[] })
  c1 : w1.cell? ⟨w.heap.size + 1, 1, none⟩ = some (.string { data := #[] })
  c2 : w1.cell? ⟨w.heap.size + 1, 2, none⟩ = some (.int .i32 0)
  c3 : w1.cell? ⟨w.heap.size + 1, 3, none⟩ = some (.int .i32 0)
  f0 : w1.frozen? ⟨w.heap.size + 1, 0, none⟩ = false
  f1 : w1.frozen? ⟨w.heap.size + 1, 1, none⟩ = false
  f2 : w1.frozen? ⟨w.heap.size + 1, 2, none⟩ = false
  f3 : w1.frozen? ⟨w.heap.size + 1, 3, none⟩ = false
  z : w.heap.size + 1 < w1.heap.size
  b : Below w.heap.size w w1
theorem ent_laid {w w1 : World} (h : Below (ent w).heap.size (ent w) w1) : Laid w w1 := by
  have hs := ent_size w
  have g : ∀ b j, b < w.heap.size + 2 → w1.cell? ⟨b, j, none⟩ = (ent w).cell? ⟨b, j, none⟩ := fun b j hb => h.cell (p := ⟨b, j, none⟩) (by rw [hs]; exact hb)
  have g' : ∀ b j, b < w.heap.size + 2 → w1.frozen? ⟨b, j, none⟩ = (ent w).frozen? ⟨b, j, none⟩ := fun b j hb => h.frozen (p := ⟨b, j, none⟩) (by rw [hs]; exact hb)
  have hz := h.size
  refine ⟨?_, ?_, ?_, ?_, ?_, ?_, ?_, ?_, ?_, by omega, (ent_below w).trans (h.mono (by omega))⟩
  all_goals first | rw [g _ _ (by omega)] | rw [g' _ _ (by omega)]
  all_goals (unfold ent; simp [go_sem])
set_option maxRecDepth 100000 in
set_option maxHeartbeats 1000000 in
theorem miss20 (b M Q I nM nI : Nat) (f g : ByteArray → Option Value) (q : ByteArray) (w : World) (h : Man w b M Q) (hm : MI w M nM f) (hf : f e0 = some (.map (some I))) (hi : MI w I nI g) (hg : g e0 = none) :
    Calls Tryf.prog 20 #[q0, .pointer (some ⟨b, 0, none⟩), .string q] w (Res (ref e0 e0) false w) := by
  have hz : e0.size ≤ maxLen := by unfold maxLen; decide
  have HC := Lib.hid (miss19 b M Q I nM nI f g e0 e0 (ent w) (h.below (ent_below w) h.lt) (hm.below (ent_below w) hm.lt) hf (hi.below (ent_below w) hi.lt) hg hz hz)
  clear h hm hf hi hg hz
  unfold q0 at *
  unfold e0 at HC
  go_enter Tryf.func20, Tryf.ntmps20
  go_wp2_with fail
  refine HC.out.mono ?_
  rintro e w1 ⟨rfl, hb1⟩
  obtain ⟨q2, c0, c1, c2, c3, f0, f1, f2, f3, hz, hB⟩ := ent_laid hb1
  have HB := Lib.hid hB
  clear hb1 HC hB
  unfold pkg e0
  go_wp2
  exact bodyPost_ret (v := .tuple #[ref e0 e0, .bool false]) (by unfold ref e0; simp [results, Tryf.results20, go_sem, hz, c0, c1, c2, c3]) rfl ⟨rfl, ((((HB.out.setCell (by simp) _).setCell (by simp) _).setCell (by simp) _).setCell (by simp) _).alloc (by simp; omega) _⟩
set_option maxRecDepth 100000 in
set_option maxHeartbeats 1000000 in
theorem dep20 (b M Q I D nM nI nD : Nat) (f g d : ByteArray → Option Value) (q i r loc : ByteArray) (w : World) (h : Man w b M Q) (hm : MI w M nM f) (hf : f e0 = some (.map (some I))) (hi : MI w I nI g) (hg : g e0 = some (pkg (some D) loc)) (hd : MI w D nD d) (hdq : d q = some (ref i r)) (hq : q.size ≤ maxLen) :
    Calls Tryf.prog 20 #[q0, .pointer (some ⟨b, 0, none⟩), .string q] w (Res (ref i r) true w) := by
  have hz : e0.size ≤ maxLen := by unfold maxLen; decide
  have HC := Lib.hid (hit19 b M Q I nM nI f g e0 e0 loc (some D) (ent w) (h.below (ent_below w) h.lt) (hm.below (ent_below w) hm.lt) hf (hi.below (ent_below w) hi.lt) hg hz hz)
  have hDl := hd.lt
  have HD := Lib.hid hd; have HDQ := Lib.hid hdq
  clear h hm hf hi hg hz hd hdq
  unfold q0 at *
  unfold e0 at HC
  unfold ref at HDQ
  go_enter Tryf.func20, Tryf.ntmps20
  go_wp2_with fail
  refine HC.out.mono ?_
  rintro e w1 ⟨rfl, hb1⟩
  obtain ⟨q2, c0, c1, c2, c3, f0, f1, f2, f3, hz, hB⟩ := ent_laid hb1
  have HB := Lib.hid hB
  have HD1 := Lib.hid ((HD.out.below hB hDl).alloc (.cells #[.map (some D), .string loc, .int .i32 0, .int .i32 0, .bool false] 55))
  clear hb1 HC hB HD
  have hz0 : w.heap.size < w1.heap.size := by omega
  unfold pkg
  go_wp2_with (at_lookup; refine wp_hit _ rfl _ _ 39 rfl Tryf.underlying9 Tryf.underlying39 _ (zero65 _) D nD d rfl HD1.out q rfl hq (.agg #[.string i, .string r, .int .i32 0, .int .i32 0]) HDQ.out ?_)
  exact bodyPost_ret (v := .tuple #[ref i r, .bool true]) (by unfold ref; simp [results, Tryf.results20, go_sem, hz, hz0, c0, c1, c2, c3]) rfl ⟨rfl, (((((HB.out.setCell (by simp) _).setCell (by simp) _).setCell (by simp) _).setCell (by simp) _).alloc (by simp; omega) _).alloc (by simp; omega) _⟩
set_option maxRecDepth 100000 in
set_option maxHeartbeats 1000000 in
theorem pool20 (b M Q I D nM nI nD nQ : Nat) (f g d p : ByteArray → Option Value) (q i r loc : ByteArray) (w : World) (h : Man w b M Q) (hm : MI w M nM f) (hf : f e0 = some (.map (some I))) (hi : MI w I nI g) (hg : g e0 = some (pkg (some D) loc)) (hd : MI w D nD d) (hdq : d q = none) (hp : MI w Q nQ p) (hpq : p q = some (ref i r)) (hq : q.size ≤ maxLen) :
    Calls Tryf.prog 20 #[q0, .pointer (some ⟨b, 0, none⟩), .string q] w (Res (ref i r) true w) := by
  have hz : e0.size ≤ maxLen := by unfold maxLen; decide
  have HC := Lib.hid (hit19 b M Q I nM nI f g e0 e0 loc (some D) (ent w) (h.below (ent_below w) h.lt) (hm.below (ent_below w) hm.lt) hf (hi.below (ent_below w) hi.lt) hg hz hz)
  have hDl := hd.lt
  have hQl := hp.lt
  have hbl := h.lt
  have HMn := Lib.hid h
  have HD := Lib.hid hd; have HDQ := Lib.hid hdq; have HP := Lib.hid hp; have HPQ := Lib.hid hpq
  clear h hm hf hi hg hz hd hdq hp hpq
  unfold q0 at *
  unfold e0 at HC
  unfold ref at HPQ
  go_enter Tryf.func20, Tryf.ntmps20
  go_wp2_with fail
  refine HC.out.mono ?_
  rintro e w1 ⟨rfl, hb1⟩
  obtain ⟨q2, c0, c1, c2, c3, f0, f1, f2, f3, hz, hB⟩ := ent_laid hb1
  have HB := Lib.hid hB
  have cp := (HMn.out.below hB hbl).pool
  have HD1 := Lib.hid ((HD.out.below hB hDl).alloc (.cells #[.map (some D), .string loc, .int .i32 0, .int .i32 0, .bool false] 55))
  have HP1 := Lib.hid (((HP.out.below hB hQl).alloc (.cells #[.map (some D), .string loc, .int .i32 0, .int .i32 0, .bool false] 55)).alloc (.cells #[.string { data := #[] }, .string { data := #[] }, .int .i32 0, .int .i32 0] 65))
  have hbw : b < w1.heap.size := by omega
  clear hb1 HC hB HD HP HMn
  have hz0 : w.heap.size < w1.heap.size := by omega
  unfold pkg
  go_wp2_with (first | (at_lookup; refine wp_miss _ rfl _ _ 39 rfl Tryf.underlying9 Tryf.underlying39 (.agg #[.string { data := #[] }, .string { data := #[] }, .int .i32 0, .int .i32 0]) (zero65 _) D nD d rfl HD1.out q rfl hq HDQ.out ?_) | (at_lookup; refine wp_hit _ rfl _ _ 39 rfl Tryf.underlying9 Tryf.underlying39 _ (zero65 _) Q nQ p rfl HP1.out q rfl hq (.agg #[.string i, .string r, .int .i32 0, .int .i32 0]) HPQ.out ?_))
  exact bodyPost_ret (v := .tuple #[ref i r, .bool true]) (by unfold ref; simp [results, Tryf.results20, go_sem, hz, hz0, c0, c1, c2, c3]) rfl ⟨rfl, (((((HB.out.setCell (by simp) _).setCell (by simp) _).setCell (by simp) _).setCell (by simp) _).alloc (by simp; omega) _).alloc (by simp; omega) _⟩
set_option maxRecDepth 100000 in
set_option maxHeartbeats 1000000 in
theorem none20 (b M Q I D nM nI nD nQ : Nat) (f g d p : ByteArray → Option Value) (q loc : ByteArray) (w : World) (h : Man w b M Q) (hm : MI w M nM f) (hf : f e0 = some (.map (some I))) (hi : MI w I nI g) (hg : g e0 = some (pkg (some D) loc)) (hd : MI w D nD d) (hdq : d q = none) (hp : MI w Q nQ p) (hpq : p q = none) (hq : q.size ≤ maxLen) :
    Calls Tryf.prog 20 #[q0, .pointer (some ⟨b, 0, none⟩), .string q] w (Res (ref e0 e0) false w) := by
  have hz : e0.size ≤ maxLen := by unfold maxLen; decide
  have HC := Lib.hid (hit19 b M Q I nM nI f g e0 e0 loc (some D) (ent w) (h.below (ent_below w) h.lt) (hm.below (ent_below w) hm.lt) hf (hi.below (ent_below w) hi.lt) hg hz hz)
  have hDl := hd.lt
  have hQl := hp.lt
  have hbl := h.lt
  have HMn := Lib.hid h
  have HD := Lib.hid hd; have HDQ := Lib.hid hdq; have HP := Lib.hid hp; have HPQ := Lib.hid hpq
  clear h hm hf hi hg hz hd hdq hp hpq
  unfold q0 at *
  unfold e0 at HC
  go_enter Tryf.func20, Tryf.ntmps20
  go_wp2_with fail
  refine HC.out.mono ?_
  rintro e w1 ⟨rfl, hb1⟩
  obtain ⟨q2, c0, c1, c2, c3, f0, f1, f2, f3, hz, hB⟩ := ent_laid hb1
  have HB := Lib.hid hB
  have cp := (HMn.out.below hB hbl).pool
  have HD1 := Lib.hid ((HD.out.below hB hDl).alloc (.cells #[.map (some D), .string loc, .int .i32 0, .int .i32 0, .bool false] 55))
  have HP1 := Lib.hid (((HP.out.below hB hQl).alloc (.cells #[.map (some D), .string loc, .int .i32 0, .int .i32 0, .bool false] 55)).alloc (.cells #[.string { data := #[] }, .string { data := #[] }, .int .i32 0, .int .i32 0] 65))
  have hbw : b < w1.heap.size := by omega
  clear hb1 HC hB HD HP HMn
  have hz0 : w.heap.size < w1.heap.size := by omega
  unfold pkg e0
  go_wp2_with (first | (at_lookup; refine wp_miss _ rfl _ _ 39 rfl Tryf.underlying9 Tryf.underlying39 (.agg #[.string { data := #[] }, .string { data := #[] }, .int .i32 0, .int .i32 0]) (zero65 _) D nD d rfl HD1.out q rfl hq HDQ.out ?_) | (at_lookup; refine wp_miss _ rfl _ _ 39 rfl Tryf.underlying9 Tryf.underlying39 (.agg #[.string { data := #[] }, .string { data := #[] }, .int .i32 0, .int .i32 0]) (zero65 _) Q nQ p rfl HP1.out q rfl hq HPQ.out ?_))
  exact bodyPost_ret (v := .tuple #[ref e0 e0, .bool false]) (by unfold ref e0; simp [results, Tryf.results20, go_sem, hz, hz0, c0, c1, c2, c3]) rfl ⟨rfl, (((((HB.out.setCell (by simp) _).setCell (by simp) _).setCell (by simp) _).setCell (by simp) _).alloc (by simp; omega) _).alloc (by simp; omega) _⟩
def Rs (i r : ByteArray) (ok : Bool) (w : World) (e : Ending) (w' : World) : Prop := e = .returned (.tuple #[.string i, .string r, .bool ok]) ∧ Below w.heap.size w w'
theorem res18 (b : Nat) (q i r : ByteArray) (ok : Bool) (w : World) (h : Calls Tryf.prog 20 #[q0, .pointer (some ⟨b, 0, none⟩), .string q] w (Res (ref i r) ok w)) :
    Calls Tryf.prog 18 #[.pointer (some ⟨b, 0, none⟩), .string q] w (Rs i r ok w) := by
  have HC := Lib.hid h
  clear h
  unfold q0 ref at HC
  go_enter Tryf.func18, Tryf.ntmps18
  go_wp2_with fail
  refine HC.out.mono ?_
  rintro e w1 ⟨rfl, h1⟩
  go_wp2
  go_quiet (fail)
  go_wp2
  go_ret3
  exact ⟨rfl, below_draws (h1.alloc h1.size _) _⟩
end Go.Proofs.YtohhbnfbdeidbaaFmt.Rva
