/- Slices of bytes that the call owns: a string appended, copies, a string appended byte by byte, two held against each other. Condition: lengths of at most 2^24. (Template: N seat, A alias, B byte type, T slice type, CL clone, AS append string, EQ same.) -/
import Derived.Test.YtpoakndmajoiaaaFmtSls
import Derived.Test.YtpoakndmajoiaaaFmtProg
import Derived.WalkSpells
import Derived.Lib.AppendStr
import Derived.Deep.AppendLies
import Derived.Deep.QuietTactic
import Derived.BigQuiet
namespace Go.Proofs.YtpoakndmajoiaaaFmt.Byw
open Go.RowKit Go.Deep Go.Proofs.YtpoakndmajoiaaaFmt.Base Go.Proofs.YtpoakndmajoiaaaFmt.Sls
set_option linter.unusedVariables false
theorem infoB : (Tryf.prog.info? 5).map (fun i => (i.zero, i.size, i.bytes)) = some (some (.int .u8 0), 1, 1) := by kernel_rfl
theorem rd_cells (w : World) (e : Nat) (xs : List Value) : Rd (w.alloc (.cells xs.toArray e)) (w.heap.size + 1) (some ⟨w.heap.size, 0, none⟩) xs := fun _ =>
  ⟨_, rfl, by simp, fun j u hj => by
    have e1 : (⟨w.heap.size, 0, none⟩ : Addr).add j = ⟨w.heap.size, j, none⟩ := by unfold Addr.add; split <;> simp_all
    rw [e1]
    have hh : (w.alloc (.cells xs.toArray e)).heap[w.heap.size]? = some (.cells xs.toArray e) := heap_alloc_new w _
    simp only [World.cell?, hh]
    simpa using hj⟩
theorem le_alloc {w : World} {B : Nat} (h : B ≤ w.heap.size) (o : Obj) : B ≤ (w.alloc o).heap.size := by simp; omega
theorem one_u8 (l : List Int) : ∀ u ∈ l.map (Value.int .u8), u.oneCell' = true := by
  intro u hu; simp only [List.mem_map] at hu; obtain ⟨c, _, rfl⟩ := hu; rfl
theorem strCells_bv (s : ByteArray) : Lib.strCells s = bv s.data.toList := rfl
/-- Where a new slice lies: in the old one's row, or in a block that is new since w. -/
def Loc (w : World) (v v' : Value) : Prop := ∀ g, v'.ownBlock = some g → v.ownBlock = some g ∨ w.heap.size ≤ g
theorem run_append_str {P : Program} (w : World) (t u ty e : TypeId) (ht : P.underlying t = some (.slice e)) (hu : P.underlying u = some .string) (hinfo : (P.info? e).map (fun i => (i.zero, i.size, i.bytes)) = some (some (.int .u8 0), 1, 1))
    (v : Value) (l : List UInt8) (base : Nat) (hown : Own w base e v (bv l)) (s : ByteArray) (hn : l.length + s.size ≤ 1073741824) (hb : base ≤ w.heap.size) :
    ∃ v' w', (Builtin.append_ #[t, u] ty #[v, .string s]).run P w = .ok v' w' ∧ Own w' base e v' (bv (l ++ s.data.toList)) ∧ w.grownBy w' v.ownBlock ∧ Loc w v v' := by
  obtain ⟨i, hi, hz0, hz1, hz2⟩ := info_parts hinfo
  obtain ⟨v', w', hrun, h1, h2, h3⟩ := run_app_str (P := P) w t u ty e i ht hu hi hz0 hz1 hz2 base v (bv l) hown s (by rw [bv_len]; unfold maxLen; omega) (by rw [bv_len]; omega) hb
  rw [strCells_bv, ← bv_append] at h1
  exact ⟨v', w', hrun, h1, h2, h3⟩
/-- A slice of the call's own that has grown since w0, whose row was r then (or is new). -/
structure Sl (w0 w : World) (r : Option Nat) (base : Nat) (A : Option Addr) (n c : Nat) (L : List UInt8) : Prop where
  own : Own w base 5 (.slice A n c) (bv L)
  len : n = L.length
  grown : w0.grownBy w r
  loc : ∀ g, (Value.slice A n c).ownBlock = some g → r = some g ∨ w0.heap.size ≤ g
section
variable {w0 w w1 : World} {r : Option Nat} {base n c : Nat} {A : Option Addr} {L k : List UInt8} {o : Obj} {v' : Value}
theorem Sl.start (h : Own w base 5 (.slice A n c) (bv L)) (hn : n = L.length) : Sl w w (Value.slice A n c).ownBlock base A n c L := ⟨h, hn, World.grownBy.refl w _, fun g hg => .inl hg⟩
theorem grown_chain {w0 w1 w2 : World} {r r1 : Option Nat} (h1 : w0.grownBy w1 r) (h2 : w1.grownBy w2 r1) (hl : ∀ g, r1 = some g → r = some g ∨ w0.heap.size ≤ g) : w0.grownBy w2 r :=
  ⟨h2.os.trans h1.os, h2.tape.trans h1.tape, h2.output.trans h1.output, Nat.le_trans h1.size h2.size, fun i hi hne => (h2.block i (Nat.lt_of_lt_of_le hi h1.size) (fun e => by rcases hl i e.symm with h | h; exact hne h.symm; omega)).trans (h1.block i hi hne)⟩
theorem grown_alloc' {w w' : World} {o : Obj} {row : Option Nat} (h : (w.alloc o).grownBy w' row) : w.grownBy w' row :=
  have hs : (w.alloc o).heap.size = w.heap.size + 1 := by simp
  have hb := (Below.refl w.heap.size w).alloc (Nat.le_refl _) o
  ⟨h.os.trans hb.os, h.tape.trans hb.tape, h.output.trans hb.output, by have := h.size; omega, fun i hi hne => (h.block i (by omega) hne).trans (hb.block i hi)⟩
theorem Sl.next (h : Sl w0 w r base A n c L) (hg : (w.alloc o).grownBy w1 (Value.slice A n c).ownBlock) (h1 : Own w1 base 5 v' (bv L ++ bv k)) (hat : v'.ownBlock = (Value.slice A n c).ownBlock ∨ v'.ownBlock = some (w.alloc o).heap.size) :
    ∃ A' n' c', v' = .slice A' n' c' ∧ Sl w0 w1 r base A' n' c' (L ++ k) := by
  rw [← bv_append] at h1
  obtain ⟨A', c', rfl⟩ := h1.form
  refine ⟨A', _, c', rfl, h1, bv_len _, grown_chain h.grown (grown_alloc' hg) h.loc, fun g hg' => ?_⟩
  rcases hat with e | e
  · rw [e] at hg'; exact h.loc g hg'
  · rw [e] at hg'; injection hg' with hg'; subst hg'; have := h.grown.size; simp; omega
theorem Sl.nextStr (h : Sl w0 w r base A n c L) (hg : w.grownBy w1 (Value.slice A n c).ownBlock) (h1 : Own w1 base 5 v' (bv (L ++ k))) (hat : Loc w (.slice A n c) v') :
    ∃ A' n' c', v' = .slice A' n' c' ∧ Sl w0 w1 r base A' n' c' (L ++ k) := by
  obtain ⟨A', c', rfl⟩ := h1.form
  refine ⟨A', _, c', rfl, h1, bv_len _, grown_chain h.grown hg h.loc, fun g hg' => ?_⟩
  rcases hat g hg' with e | e
  · exact h.loc g e
  · have := h.grown.size; omega
end
theorem wp_append_str {P : Program} (w : World) {ops : Array Oper} {rest : List Oper} {o : Oper} {a : Act} {Q : Exit → Act → World → Prop} (hgd : o.guard = none) (s x : Operand) (t u e : TypeId)
    (ho : o.op = .call { callee := .builtin .append, args := #[s, x], argTypes := #[t, u] }) (ht : P.underlying t = some (.slice e)) (hu : P.underlying u = some .string) (hinfo : (P.info? e).map (fun i => (i.zero, i.size, i.bytes)) = some (some (.int .u8 0), 1, 1))
    (v : Value) (l : List UInt8) (base : Nat) (hs : a.eval s = v) (hown : Own w base e v (bv l)) (b : ByteArray) (hx : a.eval x = .string b) (hn : l.length + b.size ≤ 1073741824) (hb : base ≤ w.heap.size)
    (h : ∀ v' w', Own w' base e v' (bv (l ++ b.data.toList)) → w.grownBy w' v.ownBlock → Loc w v v' → wpList P ops Q rest (a.put o.dst v') w') : wpList P ops Q (o :: rest) a w := by
  refine wpList_plain hgd fun K hK => ?_
  obtain ⟨v', w', hrun, h1, h2, h3⟩ := run_append_str (P := P) w t u o.type e ht hu hinfo v l base hown b hn hb
  unfold Oper.wp execOp
  simp only [ho, resolve, invoke, builtin, Sem.run_bind, Sem.run_pure, Result.andThen_ok, List.map_toArray, List.map_cons, List.map_nil, hs, hx, hrun]
  exact hK _ _ (h v' w' h1 h2 h3)
end Go.Proofs.YtpoakndmajoiaaaFmt.Byw
