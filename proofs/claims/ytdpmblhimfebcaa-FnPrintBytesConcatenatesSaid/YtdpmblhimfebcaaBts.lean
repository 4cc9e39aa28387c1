/- Slices of bytes: what reads as a list of bytes, rows of the call's own, and the models zzClone, zzAppendBytes, zzEqual by their contracts. Conditions: lengths of at most 2^24. -/
import Derived.Test.YtdpmblhimfebcaaRows
import Derived.Test.YtdpmblhimfebcaaBase
import Derived.WalkKit
import Derived.ProofKit
import Derived.OpenShut
import Derived.ShutString
import Derived.WalkLawsBesides
import Derived.WalkSpells
import Derived.Handy
import Derived.Outline
import Derived.Deep.OwnRows
import Derived.Maps.AppendAt
import Derived.OneCell
import Derived.Laws.OwnMore
import Derived.OwnWalk
import Derived.Deep.QuietTactic
import Derived.BigQuiet
namespace Go.Proofs.Ytdpmblhimfebcaa.Bts
open Go.ChangeShapes Go.WideShapes Go.ChangeAt Go.RowKit Go.Deep Go.Proofs.Ytdpmblhimfebcaa.Base
set_option linter.unusedVariables false

/-! ### PLAIN -/
def bv (l : List UInt8) : List Value := l.map fun c => .int .u8 (c.toNat : Int)
theorem bv_len (l : List UInt8) : (bv l).length = l.length := by simp [bv]
theorem bv_append (a b : List UInt8) : bv (a ++ b) = bv a ++ bv b := by simp [bv]
theorem bv_get (l : List UInt8) (j : Nat) : (bv l)[j]? = (l[j]?).map fun c => .int .u8 (c.toNat : Int) := by simp [bv]
theorem bv_one (l : List UInt8) : ∀ u ∈ bv l, u.oneCell' = true := by
  intro u hu
  simp only [bv, List.mem_map] at hu
  obtain ⟨c, _, rfl⟩ := hu
  rfl
theorem lt_cell {w : World} {a : Addr} {v : Value} (h : w.cell? a = some v) : a.block < w.heap.size := by
  rcases Nat.lt_or_ge a.block w.heap.size with hlt | hge
  · exact hlt
  · rw [World.cell?, Array.getElem?_eq_none hge] at h; cases h
theorem add_block (x : Addr) (j : Nat) : (x.add j).block = x.block := by unfold Addr.add; split <;> rfl
/-- The slice at A reads as l and lies below block B. -/
def Rd (w : World) (B : Nat) (A : Option Addr) (l : List UInt8) : Prop :=
  0 < l.length → ∃ x, A = some x ∧ x.block < B ∧ ∀ j c, l[j]? = some c → w.cell? (x.add j) = some (.int .u8 (c.toNat : Int))
theorem Rd.to {w w' : World} {B : Nat} {A : Option Addr} {l : List UInt8} (h : Rd w B A l) (hk : ∀ p : Addr, p.block < B → w'.cell? p = w.cell? p) : Rd w' B A l := by
  intro hl
  obtain ⟨x, hx, hb, hc⟩ := h hl
  exact ⟨x, hx, hb, fun j c hj => (hk _ (by rw [add_block]; exact hb)).trans (hc j c hj)⟩
theorem Rd.below {w w' : World} {B : Nat} {A : Option Addr} {l : List UInt8} (h : Rd w B A l) (hb : Below B w w') : Rd w' B A l := h.to fun _ hp => hb.cell hp
theorem Rd.up {w : World} {B B' : Nat} {A : Option Addr} {l : List UInt8} (h : Rd w B A l) (hb : B ≤ B') : Rd w B' A l := fun hl => by
  obtain ⟨x, hx, h1, hc⟩ := h hl
  exact ⟨x, hx, by omega, hc⟩
theorem Rd.at_ {w : World} {B : Nat} {A : Option Addr} {l : List UInt8} (h : Rd w B A l) {k : Nat} (hk : k < l.length) : ∃ x, A = some x ∧ x.block < B ∧ w.cell? (x.add k) = some (.int .u8 (l[k].toNat : Int)) := by
  obtain ⟨x, hx, h1, hc⟩ := h (by omega)
  exact ⟨x, hx, h1, hc k _ (List.getElem?_eq_getElem hk)⟩
/-- A row of bytes of the call's own. -/
def Own (w : World) (base : Nat) (v : Value) (l : List UInt8) : Prop := w.ownsRow base 5 1 v l.length (bv l)
theorem Own.form {w : World} {base : Nat} {v : Value} {l : List UInt8} (h : Own w base v l) : ∃ A c, v = .slice A l.length c := by
  rcases h.2 with ⟨rfl, h0⟩ | ⟨g, cap, cur, rfl, _⟩
  · exact ⟨none, 0, by rw [h0]⟩
  · exact ⟨_, _, rfl⟩
theorem Own.rd {w : World} {base c : Nat} {A : Option Addr} {l : List UInt8} (h : Own w base (.slice A l.length c) l) : Rd w w.heap.size A l := by
  intro hl
  rcases h.2 with ⟨h1, h0⟩ | ⟨g, cap, cur, hv, _, hh, _⟩
  · omega
  · injection hv with hA _ _
    subst hA
    refine ⟨_, rfl, ?_, fun j c hj => ?_⟩
    · exact lt_of_block hh
    · exact World.ownsRow.cells h (g := g) rfl j _ (by rw [bv_get, hj]; rfl)
theorem Own.of_row {w : World} {base g : Nat} {l : List UInt8} (h : w.rowIs g 5 l.length (fun i => .int .u8 ((l.getD i 0).toNat : Int))) (hb : base ≤ g) (hm : l.length ≤ maxLen) : Own w base (.slice (some ⟨g, 0, none⟩) l.length l.length) l := by
  obtain ⟨c, hh, hs, hc⟩ := h
  refine ⟨by rw [bv_len, Nat.mul_one], .inr ⟨g, l.length, c, rfl, hb, hh, Nat.le_refl _, hm, by omega, ?_⟩⟩
  apply List.ext_getElem?
  intro i
  rw [Nat.mul_one, List.getElem?_take, bv_get]
  by_cases hi : i < l.length
  · rw [if_pos hi, Array.getElem?_toList, hc i hi]
    simp [List.getD, hi]
  · rw [if_neg hi, List.getElem?_eq_none (by omega)]; rfl
theorem Own.alloc {w : World} {base : Nat} {v : Value} {l : List UInt8} (h : Own w base v l) (o : Obj) : Own (w.alloc o) base v l := World.ownsRow.alloc h o
theorem Own.nil (w : World) (base : Nat) : Own w base (.slice none 0 0) [] := World.ownsRow_nil w base 5 1
theorem Own.to {w w' : World} {row : Option Nat} {base : Nat} {v : Value} {l : List UInt8} (h : Own w base v l) (hg : w.grownBy w' row) (hne : v.ownBlock = none ∨ v.ownBlock ≠ row) : Own w' base v l := World.ownsRow.kept h hg hne
theorem Own.set {w : World} {base : Nat} {v u : Value} {l : List UInt8} {a : Addr} (h : Own w base v l) (ha : v.ownBlock ≠ some a.block) : Own (w.setCell a u) base v l := ownsRow_setCell_other h ha u
theorem grown_below {w w' : World} (h : Below w.heap.size w w') (row : Option Nat) : w.grownBy w' row := ⟨h.os, h.tape, h.output, h.size, fun i hi _ => h.block i hi⟩
theorem Own.keep {w w' : World} {base : Nat} {v : Value} {l : List UInt8} (h : Own w base v l) (hb : Below w.heap.size w w') : Own w' base v l := by
  rcases hv : v.ownBlock with _ | k
  · exact h.to (row := none) (grown_below hb _) (.inl hv)
  · exact h.to (row := none) (grown_below hb _) (.inr (by rw [hv]; simp))
theorem rd_of_row {w : World} {a : Option Addr} {len cap : Nat} {zs : List Int} (h : IsRow .u8 w a len cap zs) : ∃ l : List UInt8, l.length = len ∧ Rd w w.heap.size a l := by
  rcases h with ⟨rfl, rfl, rfl, rfl⟩ | ⟨x, rfl, hlc, hm, hz, hc, hw⟩
  · exact ⟨[], rfl, fun hl => absurd hl (by simp)⟩
  · refine ⟨(zs.take len).map fun z => UInt8.ofNat z.toNat, by simp; omega, fun hl => ⟨x, rfl, ?_, fun j c hj => ?_⟩⟩
    · have h0 := hc 0 (by simp at hl; omega)
      have := lt_cell h0
      rw [add_block] at this; exact this
    · rw [List.getElem?_map, List.getElem?_take] at hj
      by_cases hjl : j < len
      · rw [if_pos hjl] at hj
        have hjz : j < zs.length := by omega
        rw [List.getElem?_eq_getElem hjz] at hj
        simp at hj
        rw [hc j hjz]
        have hwf := hw _ (List.getElem_mem hjz)
        have e : zs.getD j 0 = zs[j] := by simp [List.getD, hjz]
        rw [e, ← hj]
        have m0 : IntKind.u8.min = 0 := rfl
        have m1 : IntKind.u8.max = 255 := rfl
        simp [Lit.wf, m0, m1] at hwf
        rw [UInt8.toNat_ofNat']
        congr 2
        omega
      · rw [if_neg hjl] at hj; simp at hj
/-- append onto a row of the call's own, the source nil or not. -/
theorem append_any {P : Program} (w : World) {ops : Array Oper} {rest : List Oper} {o : Oper} {a : Act} {Q : Exit → Act → World → Prop} (hgd : o.guard = none) (s x : Operand) (t : TypeId)
    (ho : o.op = .call { callee := .builtin .append, args := #[s, x], argTypes := #[t, t] }) (base : Nat) (ht : P.underlying t = some (.slice 5))
    (hinfo : (P.info? 5).map (fun i => (i.zero, i.size, i.bytes)) = some (some (.int .u8 0), 1, 1))
    (v : Value) (l : List UInt8) (hs : a.eval s = v) (hown : Own w base v l) (B : Nat) (A : Option Addr) (m c : Nat) (k : List UInt8) (hm : k.length = m) (hx : a.eval x = .slice A m c) (hr : Rd w B A k)
    (hlen : l.length + m ≤ 16777216) (hbase : base ≤ w.heap.size)
    (h : ∀ v' w', Own w' base v' (l ++ k) → w.grownBy w' v.ownBlock → (v'.ownBlock = v.ownBlock ∨ v'.ownBlock = some w.heap.size) → wpList P ops Q rest (a.put o.dst v') w') : wpList P ops Q (o :: rest) a w := by
  obtain ⟨i, hi, hz0, hz1, hz2⟩ := info_parts hinfo
  subst hm
  rcases A with _ | ad
  · have hk : k = [] := by
      rcases k with _ | ⟨b, k⟩
      · rfl
      · obtain ⟨x, hx, _⟩ := hr (by simp)
        cases hx
    subst hk
    refine wpList_plain hgd fun K hK => ?_
    have hrun : (Builtin.append_ #[t, t] o.type #[v, .slice none 0 c]).run P w = .ok v w := by
      rcases hown.2 with ⟨rfl, h0⟩ | ⟨g, cap, cur, rfl, _, _, hnc, _⟩
      · simp [Builtin.append_, run_underlying ht, sizeOf, typeInfo, hi, Builtin.lenOf, Builtin.firstCells]
      · simp [Builtin.append_, run_underlying ht, sizeOf, typeInfo, hi, Builtin.lenOf, Builtin.firstCells, hnc, storeCells]
    unfold Oper.wp execOp
    simp only [List.length_nil] at hx
    simp only [ho, resolve, invoke, builtin, Sem.run_bind, Sem.run_pure, Result.andThen_ok, List.map_toArray, List.map_cons, List.map_nil, hs, hx, hrun]
    exact hK _ _ (h v w (by rw [List.append_nil]; exact hown) (World.grownBy.refl w _) (.inl rfl))
  · refine wpList_append_own_at w hgd s x t ho base 5 i _ 1 1 ht hi hz0 hz1 hz2 rfl (by omega) v l.length (bv l) hs hown ad k.length c (bv k) hx (by rw [bv_len, Nat.mul_one]) ?_ (bv_one k) (by unfold maxLen; omega) (by omega) hbase ?_
    · intro j u hj
      rw [bv_get] at hj
      rcases hk : k[j]? with _ | b
      · rw [hk] at hj; cases hj
      · rw [hk] at hj
        obtain ⟨x', hx', _, hc⟩ := hr (by have := (List.getElem?_eq_some_iff.1 hk).1; omega)
        injection hx' with hx'
        subst hx'
        rw [hc j b hk, ← hj]; rfl
    · intro v' w' h1 h2 _ h4
      refine h v' w' ?_ h2 h4
      unfold Own
      rw [bv_append, List.length_append]
      exact h1
/-! ### THE FUNCTIONS -/
theorem infoE : (Try.prog.info? 5).map (fun i => (i.zero, i.size, i.bytes)) = some (some (.int .u8 0), 1, 1) := by kernel_rfl
/-- What is copied up to k. -/
def cop (l : List UInt8) (k i : Nat) : Value := if i < k then .int .u8 ((l.getD i 0).toNat : Int) else .int .u8 0
theorem cop_zero (l : List UInt8) (i : Nat) : Value.int .u8 0 = cop l 0 i := by unfold cop; rw [if_neg (by omega)]
theorem cop_all (l : List UInt8) (i : Nat) (h : i < l.length) : cop l l.length i = .int .u8 ((l.getD i 0).toNat : Int) := by unfold cop; rw [if_pos h]
theorem cop_step (l : List UInt8) (k : Nat) (h : k < l.length) (i : Nat) : (if i = k then Value.int .u8 (l[k].toNat : Int) else cop l k i) = cop l (k + 1) i := by
  unfold cop
  by_cases hi : i = k
  · subst hi; rw [if_pos rfl, if_pos (by omega)]; simp [List.getD, h]
  · rw [if_neg hi]
    by_cases h2 : i < k
    · rw [if_pos h2, if_pos (by omega)]
    · rw [if_neg h2, if_neg (by omega)]
theorem clone_nil (w : World) : Calls Try.prog 10 #[.slice none 0 0] w fun e w' => e = .returned (.slice none 0 0) ∧ w = w' := by
  have hnl := fun (W : World) (a : Option Addr) (n c : Nat) => Lib.run_eql_slice_nil (P := Try.prog) W 28 5 a n c 0 0 Try.underlying28
  go_enter Try.func10, Try.ntmps10
  go_wp2
  go_ret
  exact ⟨rfl, rfl⟩
theorem clone_some (x : Addr) (n c : Nat) (l : List UInt8) (w : World) (hl : l.length = n) (hn : n ≤ 16777216) (hr : Rd w w.heap.size (some x) l) :
    Calls Try.prog 10 #[.slice (some x) n c] w fun e w' => e = .returned (.slice (some ⟨w.heap.size, 0, none⟩) n n) ∧ Own w' w.heap.size (.slice (some ⟨w.heap.size, 0, none⟩) n n) l ∧ Below w.heap.size w w' := by
  have hmk := fun W => run_make_row' (P := Try.prog) 28 5 (.int .u8 0) 1 Try.underlying28 infoE rfl .i64 .i64 n (by omega) (by omega) W
  have HL := Lib.hid hl; clear hl
  have HRd := Lib.hid hr; clear hr
  have hx1 : 0 < n → x.block < w.heap.size := fun h => by
    obtain ⟨y, hy, hb, _⟩ := HRd.out (by rw [HL.out]; exact h)
    injection hy with hy; subst hy; exact hb
  have HX := Lib.hid hx1; clear hx1
  have hnl := fun (W : World) (a : Option Addr) (n c : Nat) => Lib.run_eql_slice_nil (P := Try.prog) W 28 5 a n c 0 0 Try.underlying28
  go_enter Try.func10, Try.ntmps10
  go_wp2
  clear hmk
  go_loopw [4] (fun i wr => ∃ k : Nat, k ≤ n ∧ i = .int .i64 k ∧ wr.rowIs w.heap.size 5 n (cop l k) ∧ Below w.heap.size w wr) (fun i _ => n - (intOf i).toNat)
  case atStart => exact ⟨0, by omega, rfl, (World.rowIs_made w (.int .u8 0) n 5).congr (fun i _ => cop_zero l i), (Below.refl _ _).alloc (Nat.le_refl _) _⟩
  case round =>
    obtain ⟨k, hk, rfl, HR, hbel⟩ := hrel
    by_cases hlt : k < n
    · have hkl : k < l.length := by rw [HL.out]; exact hlt
      have hxb := HX.out (by omega)
      have cx : wr.cell? (x.add k) = some (.int .u8 (l[k].toNat : Int)) := by
        obtain ⟨y, hy, hb, hc⟩ := HRd.out.at_ hkl
        injection hy with hy; subst hy
        rw [hbel.cell (by rw [add_block]; exact hb)]; exact hc
      have cw := HR.cell (i := k) hlt
      have fw := HR.frozen k
      have R2 := Lib.hid ((HR.set k (.int .u8 (l[k].toNat : Int))).congr (fun i _ => cop_step l k hkl i))
      have B2 := Lib.hid (hbel.setCell (p := ⟨w.heap.size, k, none⟩) (Nat.le_refl _) (.int .u8 (l[k].toNat : Int)))
      obtain ⟨q, hq⟩ : ∃ q : Int, q = (l[k].toNat : Int) := ⟨_, rfl⟩
      rw [← hq] at cx R2 B2
      clear HR hbel hq hxb
      go_wp2
      go_roundw
      case rel => exact ⟨k + 1, by omega, by go_num, R2.out, B2.out⟩
      case measure => simp [intOf]; omega
    · have hkn : k = n := by omega
      subst hkn
      have R2 := Lib.hid HR
      have B2 := Lib.hid hbel
      clear HR hbel
      go_wp2
      go_ret
      refine ⟨rfl, ?_, B2.out⟩
      have := HL.out
      subst this
      exact Own.of_row (R2.out.congr (fun i hi => cop_all l i hi)) (Nat.le_refl _) (by unfold maxLen; omega)
theorem app_any (A : Option Addr) (B : Option Addr) (n m c d base : Nat) (l k : List UInt8) (w : World) (hl : l.length = n) (hm : k.length = m) (hn : n + m ≤ 16777216)
    (ho : Own w base (.slice A n c) l) (hb : base ≤ w.heap.size) (hr : Rd w base B k) :
    Calls Try.prog 11 #[.slice A n c, .slice B m d] w fun e w' => ∃ A' c', e = .returned (.slice A' (n + m) c') ∧ Own w' base (.slice A' (n + m) c') (l ++ k) ∧ Below base w w' := by
  have HL := Lib.hid hl; have HM := Lib.hid hm; clear hl hm
  have HO := Lib.hid ho; have HRd := Lib.hid hr; clear ho hr
  go_enter Try.func11, Try.ntmps11
  go_wp2
  go_loopw [0, 5] (fun v i wr => ∃ (j : Nat) (A' : Option Addr) (c' : Nat), j ≤ m ∧ v = .slice A' (n + j) c' ∧ i = .int .i64 j ∧ Own wr base (.slice A' (n + j) c') (l ++ k.take j) ∧ Below base w wr) (fun _ i _ => m - (intOf i).toNat)
  case atStart => exact ⟨0, A, c, by omega, rfl, rfl, by rw [List.take_zero, List.append_nil]; exact HO.out, Below.refl _ _⟩
  case round =>
    obtain ⟨j, A', c', hj, rfl, rfl, hown, hbel⟩ := hrel
    have hbw : base ≤ wr.heap.size := Nat.le_trans hb hbel.size
    by_cases hlt : j < m
    · have hkl : j < k.length := by rw [HM.out]; exact hlt
      obtain ⟨y, rfl, hby, hcy⟩ := HRd.out.at_ hkl
      have cx : wr.cell? (y.add j) = some (.int .u8 (k[j].toNat : Int)) := by
        rw [hbel.cell (by rw [add_block]; exact hby)]; exact hcy
      obtain ⟨q, hq⟩ : ∃ q : Int, q = (k[j].toNat : Int) := ⟨_, rfl⟩
      rw [← hq] at cx
      have HQ := Lib.hid hq
      have OW := Lib.hid hown
      have BL := Lib.hid hbel
      clear hq hown hbel hcy
      have hlen : (l ++ k.take j).length = n + j := by rw [List.length_append, HL.out, List.length_take]; omega
      have HLEN := Lib.hid hlen; clear hlen
      go_wp2_with (at_builtin; refine append_any _ rfl (.tmp 12) (.tmp 17) 28 rfl base Try.underlying28 infoE (.slice A' (n + j) c') (l ++ k.take j) rfl (OW.out.alloc _) (wr.heap.size + 1) (some ⟨wr.heap.size, 0, none⟩) 1 1 [k[j]] rfl rfl ?c1 ?c2 ?c3 ?c4)
      case c1 =>
        intro _
        refine ⟨_, rfl, by simp, fun i c hi => ?_⟩
        match i, hi with
        | 0, hi => simp at hi; subst hi; simp [Addr.add, HQ.out]
      case c2 => rw [HLEN.out]; omega
      case c3 => simp; omega
      case c4 =>
        intro v' w1 hown1 hg1 hat1
        have hv : ∀ g, (Value.slice A' (n + j) c').ownBlock = some g → base ≤ g := fun g hg => (World.ownsRow.lt OW.out g hg).1
        have B2 := Lib.hid ((BL.out.alloc hbw _).grown hg1 (by simp; omega) hv)
        have O2 := Lib.hid (show Own w1 base v' (l ++ k.take (j + 1)) by
          first | exact hown1 | (rw [List.take_succ_eq_append_getElem hkl, ← List.append_assoc]; exact hown1))
        obtain ⟨A2, c2, hv2⟩ := O2.out.form
        have e2 : (l ++ k.take (j + 1)).length = n + (j + 1) := by rw [List.length_append, HL.out, List.length_take]; omega
        rw [e2] at hv2
        subst hv2
        clear hg1 hown1 hat1 hv e2
        go_wp2
        go_roundw
        case rel => exact ⟨j + 1, A2, c2, by omega, rfl, by go_num, O2.out, B2.out⟩
        case measure => simp [intOf]; omega
    · have hkn : j = m := by omega
      subst hkn
      have OW := Lib.hid hown
      have BL := Lib.hid hbel
      clear hown hbel
      go_wp2
      go_ret
      refine ⟨_, _, rfl, ?_, BL.out⟩
      have := OW.out
      rw [List.take_of_length_le (by rw [HM.out]; omega)] at this
      exact this
theorem equal_any (A B : Option Addr) (n c d : Nat) (l : List UInt8) (w : World) (hl : l.length = n) (hn : n ≤ 16777216) (ha : Rd w w.heap.size A l) (hb : Rd w w.heap.size B l) :
    Calls Try.prog 15 #[.slice A n c, .slice B n d] w fun e w' => e = .returned (.bool true) ∧ ∃ k, w' = w.drewN k := by
  have HL := Lib.hid hl; clear hl
  have HA := Lib.hid ha; have HB := Lib.hid hb; clear ha hb
  have z : ((n : Int) != (n : Int)) = false := by simp
  go_enter Try.func15, Try.ntmps15
  go_wp2
  go_loopw [5] (fun i wr => ∃ k q : Nat, k ≤ n ∧ i = .int .i64 k ∧ wr = w.drewN q) (fun i _ => n - (intOf i).toNat)
  case atStart => exact ⟨0, 0, by omega, rfl, rfl⟩
  case round =>
    obtain ⟨k, q, hk, rfl, rfl⟩ := hrel
    by_cases hlt : k < n
    · have hkl : k < l.length := by rw [HL.out]; exact hlt
      obtain ⟨x, rfl, _, hx⟩ := HA.out.at_ hkl
      obtain ⟨y, rfl, _, hy⟩ := HB.out.at_ hkl
      obtain ⟨u, hu⟩ : ∃ u : Int, u = (l[k].toNat : Int) := ⟨_, rfl⟩
      rw [← hu] at hx hy
      clear hu
      have x1 : (0 : Int) ≤ (k : Int) := by omega
      have x2 : (k : Int) < (n : Int) := by omega
      have zz : (u != u) = false := by simp
      go_wp2
      go_quiet (fail)
      go_wp2
      go_roundw
      case rel => exact ⟨k + 1, _, by omega, by go_num, rfl⟩
      case measure => simp [intOf]; omega
    · go_wp2
      go_ret
      exact ⟨rfl, q, rfl⟩
end Go.Proofs.Ytdpmblhimfebcaa.Bts
