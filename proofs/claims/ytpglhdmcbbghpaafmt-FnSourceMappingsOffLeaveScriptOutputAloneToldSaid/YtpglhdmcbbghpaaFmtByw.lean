/- Slices of bytes that the call owns: a string appended, copies, a string appended byte by byte, two held against each other. Condition: lengths of at most 2^24. (Template: N seat, A alias, B byte type, T slice type, CL clone, AS append string, EQ same.) -/
import Derived.Test.YtpglhdmcbbghpaaFmtSls
import Derived.Test.YtpglhdmcbbghpaaFmtProg
import Derived.WalkSpells
import Derived.Lib.AppendStr
import Derived.Deep.AppendLies
import Derived.Deep.QuietTactic
import Derived.BigQuiet
namespace Go.Proofs.YtpglhdmcbbghpaaFmt.Byw
open Go.RowKit Go.Deep Go.Proofs.YtpglhdmcbbghpaaFmt.Base Go.Proofs.YtpglhdmcbbghpaaFmt.Sls
set_option linter.unusedVariables false
theorem infoB : (Tryf.prog.info? 5).map (fun i => (i.zero, i.size, i.bytes)) = some (some (.int .u8 0), 1, 1) := by kernel_rfl
theorem rd_cells (w : World) (e : Nat) (xs : List Value) : Rd (w.alloc (.cells xs.toArray e)) (w.heap.size + 1) (some ⟨w.heap.size, 0, none⟩) xs := fun _ =>
  ⟨_, rfl, by simp, fun j u hj => by
    have e1 : (⟨w.heap.size, 0, none⟩ : Addr).add j = ⟨w.heap.size, j, none⟩ := by unfold Addr.add; split <;> simp_all
    rw [e1]
    have hh : (w.alloc (.cells xs.toArray e)).heap[w.heap.size]? = some (.cells xs.toArray e) := heap_alloc_new w _
    simp only [World.cell?, hh]
    simpa using hj⟩
theorem le_alloc {w : World} {B : Nat} (h : B ≤ w.heap.size) (o : Obj) : B ≤ (w.alloc o).heap.size := by simp; omega
theorem one_u8 (l : List Int) : ∀ u ∈ l.map (Value.int .u8), u.oneCell' = true := by
  intro u hu; simp only [List.mem_map] at hu; obtain ⟨c, _, rfl⟩ := hu; rfl
theorem strCells_bv (s : ByteArray) : Lib.strCells s = bv s.data.toList := rfl
theorem Own.base {w : World} {b b' e : Nat} {v : Value} {xs : List Value} (h : Own w b e v xs) (hb : b' ≤ b) : Own w b' e v xs := by
  obtain ⟨h1, h2⟩ := h
  refine ⟨h1, ?_⟩
  rcases h2 with h2 | ⟨g, cap, cur, h3, h4, h5⟩
  · exact .inl h2
  · exact .inr ⟨g, cap, cur, h3, by omega, h5⟩
/-- Where a new slice lies: in the old one's row, or in a block that is new since w. -/
def Loc (w : World) (v v' : Value) : Prop := ∀ g, v'.ownBlock = some g → v.ownBlock = some g ∨ w.heap.size ≤ g
theorem run_append_str {P : Program} (w : World) (t u ty e : TypeId) (ht : P.underlying t = some (.slice e)) (hu : P.underlying u = some .string) (hinfo : (P.info? e).map (fun i => (i.zero, i.size, i.bytes)) = some (some (.int .u8 0), 1, 1))
    (v : Value) (l : List UInt8) (base : Nat) (hown : Own w base e v (bv l)) (s : ByteArray) (hn : l.length + s.size ≤ 1073741824) (hb : base ≤ w.heap.size) :
    ∃ v' w', (Builtin.append_ #[t, u] ty #[v, .string s]).run P w = .ok v' w' ∧ Own w' base e v' (bv (l ++ s.data.toList)) ∧ w.grownBy w' v.ownBlock ∧ Loc w v v' := by
  obtain ⟨i, hi, hz0, hz1, hz2⟩ := info_parts hinfo
  have hl : (bv l).length = l.length := bv_len l
  have hown' : w.ownsRow base e 1 v l.length (bv l) := by have := hown; unfold Own at this; rw [hl] at this; exact this
  obtain ⟨v', w', hrun, h1, h2, _⟩ := Lib.run_append_own_string w base t u ty e i ht hu hi hz0 hz1 hz2 v l.length (bv l) hown' s (by unfold maxLen; omega) (by omega) hb
  refine ⟨v', w', hrun, ?_, h2, ?_⟩
  · rw [strCells_bv, ← bv_append] at h1
    unfold Own
    rw [bv_len, List.length_append, len_list]
    exact h1
  · intro g hg
    rcases hown'.2 with ⟨rfl, h0⟩ | ⟨g0, cap, cur, rfl, hb0, hh, hnc, hcm, hcs, htake⟩
    · obtain ⟨v2, w2, hrun2, k1, _, _⟩ := Lib.run_append_own_string w w.heap.size t u ty e i ht hu hi hz0 hz1 hz2 (.slice none 0 0) l.length (bv l) ⟨hown'.1, .inl ⟨rfl, h0⟩⟩ s (by unfold maxLen; omega) (by omega) (Nat.le_refl _)
      rw [hrun] at hrun2
      injection hrun2 with e1 e2
      subst e1
      exact .inr (World.ownsRow.lt k1 g hg).1
    · have hcc : cur.size = cap := by simpa using hcs
      have hfit : l.length + s.size ≤ cap → l.length + s.size ≤ cur.size := fun h => by omega
      by_cases hroom : l.length + s.size ≤ cap
      · have hr := Lib.run_append_room_string (P := P) w t u ty e i ht hu hi hz1 g0 l.length cap cur hh s hroom (hfit hroom)
        rw [hrun] at hr
        injection hr with e1 e2
        subst e1
        exact .inl (by simpa [Value.ownBlock] using hg)
      · have holds : ∀ j u, (bv l)[j]? = some u → w.cell? ((⟨g0, 0, none⟩ : Addr).add j) = some u := hown'.cells (g := g0) rfl
        have hr := Lib.run_append_grow_string (P := P) w t u ty e i (.int .u8 0) ht hu hi hz0 ⟨g0, 0, none⟩ l.length cap (bv l) (by rw [hz1]; simpa using hl) holds s (by omega) (by omega) (by rw [hz2]; exact growslice_fits (by omega) (by omega))
        rw [hrun] at hr
        injection hr with e1 e2
        subst e1
        refine .inr ?_
        have : w.heap.size = g := by simpa [Value.ownBlock] using hg
        omega
/-- A slice of the call's own that has grown since w0, whose row was r then (or is new). -/
structure Sl (w0 w : World) (r : Option Nat) (base : Nat) (A : Option Addr) (n c : Nat) (L : List UInt8) : Prop where
  own : Own w base 5 (.slice A n c) (bv L)
  len : n = L.length
  grown : w0.grownBy w r
  loc : ∀ g, (Value.slice A n c).ownBlock = some g → r = some g ∨ w0.heap.size ≤ g
section
variable {w0 w w1 : World} {r : Option Nat} {base n c : Nat} {A : Option Addr} {L k : List UInt8} {o : Obj} {v' : Value}
theorem Sl.start (h : Own w base 5 (.slice A n c) (bv L)) (hn : n = L.length) : Sl w w (Value.slice A n c).ownBlock base A n c L := ⟨h, hn, World.grownBy.refl w _, fun g hg => .inl hg⟩
theorem grown_chain {w0 w1 w2 : World} {r r1 : Option Nat} (h1 : w0.grownBy w1 r) (h2 : w1.grownBy w2 r1) (hl : ∀ g, r1 = some g → r = some g ∨ w0.heap.size ≤ g) : w0.grownBy w2 r :=
  ⟨h2.os.trans h1.os, h2.tape.trans h1.tape, h2.output.trans h1.output, Nat.le_trans h1.size h2.size, fun i hi hne => (h2.block i (Nat.lt_of_lt_of_le hi h1.size) (fun e => by rcases hl i e.symm with h | h; exact hne h.symm; omega)).trans (h1.block i hi hne)⟩
theorem grown_alloc' {w w' : World} {o : Obj} {row : Option Nat} (h : (w.alloc o).grownBy w' row) : w.grownBy w' row :=
  have hs : (w.alloc o).heap.size = w.heap.size + 1 := by simp
  have hb := (Below.refl w.heap.size w).alloc (Nat.le_refl _) o
  ⟨h.os.trans hb.os, h.tape.trans hb.tape, h.output.trans hb.output, by have := h.size; omega, fun i hi hne => (h.block i (by omega) hne).trans (hb.block i hi)⟩
theorem Sl.next (h : Sl w0 w r base A n c L) (hg : (w.alloc o).grownBy w1 (Value.slice A n c).ownBlock) (h1 : Own w1 base 5 v' (bv L ++ bv k)) (hat : v'.ownBlock = (Value.slice A n c).ownBlock ∨ v'.ownBlock = some (w.alloc o).heap.size) :
    ∃ A' n' c', v' = .slice A' n' c' ∧ Sl w0 w1 r base A' n' c' (L ++ k) := by
  rw [← bv_append] at h1
  obtain ⟨A', c', rfl⟩ := h1.form
  refine ⟨A', _, c', rfl, h1, bv_len _, grown_chain h.grown (grown_alloc' hg) h.loc, fun g hg' => ?_⟩
  rcases hat with e | e
  · rw [e] at hg'; exact h.loc g hg'
  · rw [e] at hg'; injection hg' with hg'; subst hg'; have := h.grown.size; simp; omega
theorem Sl.nextStr (h : Sl w0 w r base A n c L) (hg : w.grownBy w1 (Value.slice A n c).ownBlock) (h1 : Own w1 base 5 v' (bv (L ++ k))) (hat : Loc w (.slice A n c) v') :
    ∃ A' n' c', v' = .slice A' n' c' ∧ Sl w0 w1 r base A' n' c' (L ++ k) := by
  obtain ⟨A', c', rfl⟩ := h1.form
  refine ⟨A', _, c', rfl, h1, bv_len _, grown_chain h.grown hg h.loc, fun g hg' => ?_⟩
  rcases hat g hg' with e | e
  · exact h.loc g e
  · have := h.grown.size; omega
end
theorem wp_append_str {P : Program} (w : World) {ops : Array Oper} {rest : List Oper} {o : Oper} {a : Act} {Q : Exit → Act → World → Prop} (hgd : o.guard = none) (s x : Operand) (t u e : TypeId)
    (ho : o.op = .call { callee := .builtin .append, args := #[s, x], argTypes := #[t, u] }) (ht : P.underlying t = some (.slice e)) (hu : P.underlying u = some .string) (hinfo : (P.info? e).map (fun i => (i.zero, i.size, i.bytes)) = some (some (.int .u8 0), 1, 1))
    (v : Value) (l : List UInt8) (base : Nat) (hs : a.eval s = v) (hown : Own w base e v (bv l)) (b : ByteArray) (hx : a.eval x = .string b) (hn : l.length + b.size ≤ 1073741824) (hb : base ≤ w.heap.size)
    (h : ∀ v' w', Own w' base e v' (bv (l ++ b.data.toList)) → w.grownBy w' v.ownBlock → Loc w v v' → wpList P ops Q rest (a.put o.dst v') w') : wpList P ops Q (o :: rest) a w := by
  refine wpList_plain hgd fun K hK => ?_
  obtain ⟨v', w', hrun, h1, h2, h3⟩ := run_append_str (P := P) w t u o.type e ht hu hinfo v l base hown b hn hb
  unfold Oper.wp execOp
  simp only [ho, resolve, invoke, builtin, Sem.run_bind, Sem.run_pure, Result.andThen_ok, List.map_toArray, List.map_cons, List.map_nil, hs, hx, hrun]
  exact hK _ _ (h v' w' h1 h2 h3)
/-! ### copies -/
def copB (l : List UInt8) (k i : Nat) : Value := if i < k then (bv l).getD i (.int .u8 0) else .int .u8 0
theorem copB_step (l : List UInt8) (k : Nat) (u : Value) (h : (bv l)[k]? = some u) (i : Nat) : (if i = k then u else copB l k i) = copB l (k + 1) i := by
  unfold copB
  by_cases hi : i = k
  · subst hi; rw [if_pos rfl, if_pos (by omega), List.getD_eq_getElem?_getD, h]; rfl
  · rw [if_neg hi]
    by_cases h2 : i < k
    · rw [if_pos h2, if_pos (by omega)]
    · rw [if_neg h2, if_neg (by omega)]
theorem cloneB_nil (w : World) : Calls Tryf.prog 5 #[.slice none 0 0] w fun e w' => e = .returned (.slice none 0 0) ∧ w = w' := by
  have hnl := fun (W : World) (a : Option Addr) (n c : Nat) => Lib.run_eql_slice_nil (P := Tryf.prog) W 22 5 a n c 0 0 Tryf.underlying22
  go_enter Tryf.func5, Tryf.ntmps5
  go_wp2
  go_ret
  exact ⟨rfl, rfl⟩
theorem cloneB_some (x : Addr) (n c : Nat) (l : List UInt8) (w : World) (hl : l.length = n) (hn : n ≤ 16777216) (hr : Rd w w.heap.size (some x) (bv l)) :
    Calls Tryf.prog 5 #[.slice (some x) n c] w fun e w' => e = .returned (.slice (some ⟨w.heap.size, 0, none⟩) n n) ∧ Own w' w.heap.size 5 (.slice (some ⟨w.heap.size, 0, none⟩) n n) (bv l) ∧ Below w.heap.size w w' := by
  have hmk := fun W => run_make_row' (P := Tryf.prog) 22 5 (.int .u8 0) 1 Tryf.underlying22 infoB rfl .i64 .i64 n (by omega) (by omega) W
  have HL := Lib.hid hl; clear hl
  have HRd := Lib.hid hr; clear hr
  have hnl := fun (W : World) (a : Option Addr) (n c : Nat) => Lib.run_eql_slice_nil (P := Tryf.prog) W 22 5 a n c 0 0 Tryf.underlying22
  go_enter Tryf.func5, Tryf.ntmps5
  go_wp2
  clear hmk hnl
  go_loopw [4] (fun i wr => ∃ k : Nat, k ≤ n ∧ i = .int .i64 k ∧ wr.rowIs w.heap.size 5 n (copB l k) ∧ Below w.heap.size w wr) (fun i _ => n - (intOf i).toNat)
  case atStart => exact ⟨0, by omega, rfl, (World.rowIs_made w (.int .u8 0) n 5).congr (fun i _ => by unfold copB; rw [if_neg (by omega)]), (Below.refl _ _).alloc (Nat.le_refl _) _⟩
  case round =>
    obtain ⟨k, hk, rfl, HR, hbel⟩ := hrel
    by_cases hlt : k < n
    · have hkl : k < l.length := by rw [HL.out]; exact hlt
      obtain ⟨y, hy, hb, hc⟩ := HRd.out.at_ (bv_at l k hkl)
      injection hy with hy; subst hy
      have cx := (hbel.cell (p := x.add k) (by rw [add_block]; exact hb)).trans hc
      have cw := HR.cell (i := k) hlt
      have fw := HR.frozen k
      have R2 := Lib.hid ((HR.set k _).congr (fun i _ => copB_step l k _ (bv_at l k hkl) i))
      have B2 := Lib.hid (hbel.setCell (p := ⟨w.heap.size, k, none⟩) (Nat.le_refl _) (.int .u8 (l[k].toNat : Int)))
      obtain ⟨q, hq⟩ : ∃ q : Int, q = (l[k].toNat : Int) := ⟨_, rfl⟩
      rw [← hq] at cx R2 B2
      clear HR hbel hq hb hc
      go_wp2
      go_roundw
      case rel => exact ⟨k + 1, by omega, by go_num, R2.out, B2.out⟩
      case measure => simp [intOf]; omega
    · have hkn : k = n := by omega
      subst hkn
      have R2 := Lib.hid HR
      have B2 := Lib.hid hbel
      clear HR hbel
      go_wp2
      go_ret
      refine ⟨rfl, ?_, B2.out⟩
      have e1 : (bv l).length = k := by rw [bv_len, HL.out]
      refine Own.of_row (R2.out) e1 (fun i hi => ?_) (Nat.le_refl _) (by unfold maxLen; omega)
      unfold copB
      rw [if_pos hi, List.getD_eq_getElem?_getD, List.getElem?_eq_getElem (by omega)]; rfl
def ClB (n : Nat) (l : List UInt8) (w : World) (e : Ending) (w' : World) : Prop := ∃ A' c', e = .returned (.slice A' n c') ∧ Own w' w.heap.size 5 (.slice A' n c') (bv l) ∧ Below w.heap.size w w'
theorem cloneB (A : Option Addr) (n c : Nat) (l : List UInt8) (w : World) (hl : l.length = n) (hn : n ≤ 16777216) (hnil : A = none → n = 0 ∧ c = 0) (hr : Rd w w.heap.size A (bv l)) : Calls Tryf.prog 5 #[.slice A n c] w (ClB n l w) := by
  rcases A with _ | x
  · obtain ⟨rfl, rfl⟩ := hnil rfl
    obtain rfl : l = [] := List.eq_nil_of_length_eq_zero hl
    refine (cloneB_nil w).mono ?_
    rintro e w' ⟨rfl, rfl⟩
    exact ⟨none, 0, rfl, Own.nil _ _ _, Below.refl _ _⟩
  · refine (cloneB_some x n c l w hl hn hr).mono ?_
    rintro e w' ⟨rfl, h1, h2⟩
    exact ⟨_, _, rfl, h1, h2⟩
/-! ### two held against each other -/
theorem same_any (A B : Option Addr) (n c d : Nat) (l : List UInt8) (w : World) (hl : l.length = n) (hn : n ≤ 16777216) (ha : Rd w w.heap.size A (bv l)) (hb : Rd w w.heap.size B (bv l)) :
    Calls Tryf.prog 12 #[.slice A n c, .slice B n d] w fun e w' => e = .returned (.bool true) ∧ ∃ k, w' = w.drewN k := by
  have HL := Lib.hid hl; clear hl
  have HA := Lib.hid ha; have HB := Lib.hid hb; clear ha hb
  have z : ((n : Int) != (n : Int)) = false := by simp
  go_enter Tryf.func12, Tryf.ntmps12
  go_wp2
  go_loopw [5] (fun i wr => ∃ k q : Nat, k ≤ n ∧ i = .int .i64 k ∧ wr = w.drewN q) (fun i _ => n - (intOf i).toNat)
  case atStart => exact ⟨0, 0, by omega, rfl, rfl⟩
  case round =>
    obtain ⟨k, q, hk, rfl, rfl⟩ := hrel
    by_cases hlt : k < n
    · have hkl : k < l.length := by rw [HL.out]; exact hlt
      obtain ⟨x, rfl, _, hx⟩ := HA.out.at_ (bv_at l k hkl)
      obtain ⟨y, rfl, _, hy⟩ := HB.out.at_ (bv_at l k hkl)
      obtain ⟨u, hu⟩ : ∃ u : Int, u = (l[k].toNat : Int) := ⟨_, rfl⟩
      rw [← hu] at hx hy
      clear hu
      have x1 : (0 : Int) ≤ (k : Int) := by omega
      have x2 : (k : Int) < (n : Int) := by omega
      have zz : (u != u) = false := by simp
      go_wp2
      go_quiet (fail)
      go_wp2
      go_roundw
      case rel => exact ⟨k + 1, _, by omega, by go_num, rfl⟩
      case measure => simp [intOf]; omega
    · go_wp2
      go_ret
      exact ⟨rfl, q, rfl⟩
end Go.Proofs.YtpglhdmcbbghpaaFmt.Byw
