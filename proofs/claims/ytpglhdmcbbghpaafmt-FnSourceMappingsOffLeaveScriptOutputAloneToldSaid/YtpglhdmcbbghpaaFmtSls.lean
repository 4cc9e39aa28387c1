/- Slices whose elements take one cell: what reads as a list of cells, rows of the call's own, append and copy onto them. Lists of bytes and of strings as cells. No program in it. -/
import Derived.Test.YtpglhdmcbbghpaaFmtBase
import Derived.WalkKit
import Derived.Below
import Derived.Deep.OwnRows
import Derived.Maps.AppendAt
import Derived.OneCell
import Derived.Laws.OwnMore
import Derived.Laws.CopyOwn
import Derived.OwnWalk
namespace Go.Proofs.YtpglhdmcbbghpaaFmt.Sls
open Go.RowKit Go.Deep Go.Proofs.YtpglhdmcbbghpaaFmt.Base
set_option linter.unusedVariables false
def bv (l : List UInt8) : List Value := l.map fun c => .int .u8 (c.toNat : Int)
def sv (l : List ByteArray) : List Value := l.map Value.string
theorem bv_len (l : List UInt8) : (bv l).length = l.length := by simp [bv]
theorem sv_len (l : List ByteArray) : (sv l).length = l.length := by simp [sv]
theorem bv_append (a b : List UInt8) : bv (a ++ b) = bv a ++ bv b := by simp [bv]
theorem sv_append (a b : List ByteArray) : sv (a ++ b) = sv a ++ sv b := by simp [sv]
theorem bv_get (l : List UInt8) (j : Nat) : (bv l)[j]? = (l[j]?).map fun c => .int .u8 (c.toNat : Int) := by simp [bv]
theorem sv_get (l : List ByteArray) (j : Nat) : (sv l)[j]? = (l[j]?).map Value.string := by simp [sv]
theorem bv_at (l : List UInt8) (j : Nat) (h : j < l.length) : (bv l)[j]? = some (.int .u8 (l[j].toNat : Int)) := by rw [bv_get, List.getElem?_eq_getElem h]; rfl
theorem sv_at (l : List ByteArray) (j : Nat) (h : j < l.length) : (sv l)[j]? = some (.string l[j]) := by rw [sv_get, List.getElem?_eq_getElem h]; rfl
theorem bv_one (l : List UInt8) : ∀ u ∈ bv l, u.oneCell' = true := by
  intro u hu
  simp only [bv, List.mem_map] at hu
  obtain ⟨c, _, rfl⟩ := hu
  rfl
theorem sv_one (l : List ByteArray) : ∀ u ∈ sv l, u.oneCell' = true := by
  intro u hu
  simp only [sv, List.mem_map] at hu
  obtain ⟨c, _, rfl⟩ := hu
  rfl
theorem lt_cell {w : World} {a : Addr} {v : Value} (h : w.cell? a = some v) : a.block < w.heap.size := by
  rcases Nat.lt_or_ge a.block w.heap.size with hlt | hge
  · exact hlt
  · rw [World.cell?, Array.getElem?_eq_none hge] at h; cases h
theorem add_block (x : Addr) (j : Nat) : (x.add j).block = x.block := by unfold Addr.add; split <;> rfl
/-- The slice at A reads as the cells xs and lies below block B. -/
def Rd (w : World) (B : Nat) (A : Option Addr) (xs : List Value) : Prop :=
  0 < xs.length → ∃ x, A = some x ∧ x.block < B ∧ ∀ j u, xs[j]? = some u → w.cell? (x.add j) = some u
section
variable {w w' : World} {B B' base e : Nat} {A : Option Addr} {xs : List Value} {v u : Value}
theorem Rd.to (h : Rd w B A xs) (hk : ∀ p : Addr, p.block < B → w'.cell? p = w.cell? p) : Rd w' B A xs := by
  intro hl
  obtain ⟨x, hx, hb, hc⟩ := h hl
  exact ⟨x, hx, hb, fun j c hj => (hk _ (by rw [add_block]; exact hb)).trans (hc j c hj)⟩
theorem Rd.below (h : Rd w B A xs) (hb : Below B w w') : Rd w' B A xs := h.to fun _ hp => hb.cell hp
theorem Rd.up (h : Rd w B A xs) (hb : B ≤ B') : Rd w B' A xs := fun hl => by
  obtain ⟨x, hx, h1, hc⟩ := h hl
  exact ⟨x, hx, by omega, hc⟩
theorem Rd.later (h : Rd w w.heap.size A xs) (hb : Below w.heap.size w w') : Rd w' w'.heap.size A xs := (h.below hb).up hb.size
theorem Rd.at_ (h : Rd w B A xs) {k : Nat} {u : Value} (hk : xs[k]? = some u) : ∃ x, A = some x ∧ x.block < B ∧ w.cell? (x.add k) = some u := by
  obtain ⟨x, hx, h1, hc⟩ := h (by have := (List.getElem?_eq_some_iff.1 hk).1; omega)
  exact ⟨x, hx, h1, hc k _ hk⟩
theorem Rd.nil (w : World) (B : Nat) (A : Option Addr) : Rd w B A [] := fun h => absurd h (by simp)
/-- A row of the call's own: v has the cells xs, of element type e, in a block from base on. -/
def Own (w : World) (base e : Nat) (v : Value) (xs : List Value) : Prop := w.ownsRow base e 1 v xs.length xs
theorem Own.form (h : Own w base e v xs) : ∃ A c, v = .slice A xs.length c := by
  rcases h.2 with ⟨rfl, h0⟩ | ⟨g, cap, cur, rfl, _⟩
  · exact ⟨none, 0, by rw [h0]⟩
  · exact ⟨_, _, rfl⟩
theorem Own.rd {n c : Nat} (h : Own w base e (.slice A n c) xs) : Rd w w.heap.size A xs := by
  intro hl
  rcases h.2 with ⟨h1, h0⟩ | ⟨g, cap, cur, hv, _, hh, _⟩
  · omega
  · injection hv with hA _ _
    subst hA
    exact ⟨_, rfl, lt_of_block hh, fun j c hj => World.ownsRow.cells h (g := g) rfl j _ hj⟩
theorem Own.of_row {g n : Nat} {f : Nat → Value} (h : w.rowIs g e n f) (hn : xs.length = n) (hf : ∀ i, i < n → xs[i]? = some (f i)) (hb : base ≤ g) (hm : n ≤ maxLen) : Own w base e (.slice (some ⟨g, 0, none⟩) n n) xs := by
  obtain ⟨c, hh, hs, hc⟩ := h
  subst hn
  refine ⟨by rw [Nat.mul_one], .inr ⟨g, xs.length, c, rfl, hb, hh, Nat.le_refl _, hm, by omega, ?_⟩⟩
  apply List.ext_getElem?
  intro i
  rw [Nat.mul_one, List.getElem?_take]
  by_cases hi : i < xs.length
  · rw [if_pos hi, Array.getElem?_toList, hc i hi, hf i hi]
  · rw [if_neg hi, List.getElem?_eq_none (by omega)]
theorem Own.of_block {g : Nat} (h : w.heap[g]? = some (.cells xs.toArray e (0, 0))) (hb : base ≤ g) (hm : xs.length ≤ maxLen) : Own w base e (.slice (some ⟨g, 0, none⟩) xs.length xs.length) xs :=
  ⟨by rw [Nat.mul_one], .inr ⟨g, xs.length, xs.toArray, rfl, hb, h, Nat.le_refl _, hm, by simp, by simp⟩⟩
theorem Own.nil (w : World) (base e : Nat) : Own w base e (.slice none 0 0) [] := World.ownsRow_nil w base e 1
theorem Own.alloc (h : Own w base e v xs) (o : Obj) : Own (w.alloc o) base e v xs := World.ownsRow.alloc h o
theorem Own.to {row : Option Nat} (h : Own w base e v xs) (hg : w.grownBy w' row) (hne : v.ownBlock = none ∨ v.ownBlock ≠ row) : Own w' base e v xs := World.ownsRow.kept h hg hne
theorem Own.set {a : Addr} (h : Own w base e v xs) (ha : v.ownBlock ≠ some a.block) : Own (w.setCell a u) base e v xs := ownsRow_setCell_other h ha u
theorem Own.lt (h : Own w base e v xs) : ∀ g, v.ownBlock = some g → base ≤ g ∧ g < w.heap.size := World.ownsRow.lt h
theorem grown_below (h : Below w.heap.size w w') (row : Option Nat) : w.grownBy w' row := ⟨h.os, h.tape, h.output, h.size, fun i hi _ => h.block i hi⟩
theorem Own.keep (h : Own w base e v xs) (hb : Below w.heap.size w w') : Own w' base e v xs := by
  rcases hv : v.ownBlock with _ | k
  · exact h.to (row := none) (grown_below hb _) (.inl hv)
  · exact h.to (row := none) (grown_below hb _) (.inr (by rw [hv]; simp))
end
theorem rd_of_bytes {w : World} {a : Option Addr} {len cap : Nat} {zs : List Int} (h : IsRow .u8 w a len cap zs) : (∃ l : List UInt8, l.length = len ∧ Rd w w.heap.size a (bv l)) ∧ (a = none → len = 0 ∧ cap = 0) ∧ len ≤ maxLen := by
  rcases h with ⟨rfl, rfl, rfl, rfl⟩ | ⟨x, rfl, hlc, hm, hz, hc, hw⟩
  · exact ⟨⟨[], rfl, fun hl => absurd hl (by simp [bv])⟩, fun _ => ⟨rfl, rfl⟩, by unfold maxLen; omega⟩
  · refine ⟨⟨(zs.take len).map fun z => UInt8.ofNat z.toNat, by simp; omega, fun hl => ⟨x, rfl, ?_, fun j c hj => ?_⟩⟩, fun h => (by cases h), by omega⟩
    · have h0 := hc 0 (by rw [bv_len] at hl; simp at hl; omega)
      have := lt_cell h0
      rw [add_block] at this; exact this
    · rw [bv_get, List.getElem?_map, List.getElem?_take] at hj
      by_cases hjl : j < len
      · rw [if_pos hjl] at hj
        have hjz : j < zs.length := by omega
        rw [List.getElem?_eq_getElem hjz] at hj
        simp at hj
        rw [hc j hjz]
        have hwf := hw _ (List.getElem_mem hjz)
        have e : zs.getD j 0 = zs[j] := by simp [List.getD, hjz]
        rw [e, ← hj]
        have m0 : IntKind.u8.min = 0 := rfl
        have m1 : IntKind.u8.max = 255 := rfl
        simp [Lit.wf, m0, m1] at hwf
        congr 2
        omega
      · rw [if_neg hjl] at hj; simp at hj
theorem rd_of_strs {w : World} {a : Option Addr} {len cap : Nat} {zs : List ByteArray} (h : IsStrs w a len cap zs) : (∃ l : List ByteArray, l.length = len ∧ Rd w w.heap.size a (sv l) ∧ ∀ s ∈ l, s.size ≤ maxLen) ∧ (a = none → len = 0 ∧ cap = 0) ∧ len ≤ maxLen := by
  rcases h with ⟨rfl, rfl, rfl, rfl⟩ | ⟨x, rfl, hlc, hm, hz, hc, hw⟩
  · exact ⟨⟨[], rfl, fun hl => absurd hl (by simp [sv]), by simp⟩, fun _ => ⟨rfl, rfl⟩, by unfold maxLen; omega⟩
  · refine ⟨⟨zs.take len, by simp; omega, fun hl => ⟨x, rfl, ?_, fun j c hj => ?_⟩, fun s hs => hw s (List.mem_of_mem_take hs)⟩, fun h => (by cases h), by omega⟩
    · have h0 := hc 0 (by rw [sv_len] at hl; simp at hl; omega)
      have := lt_cell h0
      rw [add_block] at this; exact this
    · rw [sv_get, List.getElem?_take] at hj
      by_cases hjl : j < len
      · rw [if_pos hjl] at hj
        have hjz : j < zs.length := by omega
        rw [List.getElem?_eq_getElem hjz] at hj
        simp at hj
        rw [hc j hjz, ← hj]
        simp [List.getD, hjz]
      · rw [if_neg hjl] at hj; simp at hj
/-- append onto a row of the call's own, the source nil or not. -/
theorem append_any {P : Program} (w : World) {ops : Array Oper} {rest : List Oper} {o : Oper} {a : Act} {Q : Exit → Act → World → Prop} (hgd : o.guard = none) (s x : Operand) (t e : TypeId)
    (ho : o.op = .call { callee := .builtin .append, args := #[s, x], argTypes := #[t, t] }) (base : Nat) (ht : P.underlying t = some (.slice e)) (z : Value) (bytes : Nat) (hz : z.cells.size = 1) (hby : bytes ≤ 16)
    (hinfo : (P.info? e).map (fun i => (i.zero, i.size, i.bytes)) = some (some z, 1, bytes))
    (v : Value) (l : List Value) (hs : a.eval s = v) (hown : Own w base e v l) (B : Nat) (A : Option Addr) (m c : Nat) (k : List Value) (hm : k.length = m) (hx : a.eval x = .slice A m c) (hr : Rd w B A k) (h1 : ∀ u ∈ k, u.oneCell' = true)
    (hlen : l.length + m ≤ 1073741824) (hbase : base ≤ w.heap.size)
    (h : ∀ v' w', Own w' base e v' (l ++ k) → w.grownBy w' v.ownBlock → (v'.ownBlock = v.ownBlock ∨ v'.ownBlock = some w.heap.size) → wpList P ops Q rest (a.put o.dst v') w') : wpList P ops Q (o :: rest) a w := by
  obtain ⟨i, hi, hz0, hz1, hz2⟩ := info_parts hinfo
  subst hm
  rcases A with _ | ad
  · have hk : k = [] := by
      rcases k with _ | ⟨b, k⟩
      · rfl
      · obtain ⟨x, hx, _⟩ := hr (by simp)
        cases hx
    subst hk
    refine wpList_plain hgd fun K hK => ?_
    have hrun : (Builtin.append_ #[t, t] o.type #[v, .slice none 0 c]).run P w = .ok v w := by
      rcases hown.2 with ⟨rfl, h0⟩ | ⟨g, cap, cur, rfl, _, _, hnc, _⟩
      · simp [Builtin.append_, run_underlying ht, sizeOf, typeInfo, hi, Builtin.lenOf, Builtin.firstCells]
      · simp [Builtin.append_, run_underlying ht, sizeOf, typeInfo, hi, Builtin.lenOf, Builtin.firstCells, hnc, storeCells]
    unfold Oper.wp execOp
    simp only [List.length_nil] at hx
    simp only [ho, resolve, invoke, builtin, Sem.run_bind, Sem.run_pure, Result.andThen_ok, List.map_toArray, List.map_cons, List.map_nil, hs, hx, hrun]
    exact hK _ _ (h v w (by rw [List.append_nil]; exact hown) (World.grownBy.refl w _) (.inl rfl))
  · refine wpList_append_own_at w hgd s x t ho base e i _ 1 bytes ht hi hz0 hz1 hz2 hz (by omega) v l.length l hs hown ad k.length c k hx (by rw [Nat.mul_one]) ?_ h1 (by unfold maxLen; omega) (Nat.le_trans (Nat.mul_le_mul hlen hby) (by omega)) hbase ?_
    · intro j u hj
      obtain ⟨x', hx', _, hc⟩ := hr (by have := (List.getElem?_eq_some_iff.1 hj).1; omega)
      injection hx' with hx'
      subst hx'
      exact hc j u hj
    · intro v' w' h1 h2 _ h4
      refine h v' w' ?_ h2 h4
      unfold Own
      rw [List.length_append]
      exact h1
/-- copy into a row that was made for it. -/
theorem copy_all {P : Program} (w : World) {ops : Array Oper} {rest : List Oper} {o : Oper} {a : Act} {Q : Exit → Act → World → Prop} (hgd : o.guard = none) (d s : Operand) (t e : TypeId)
    (ho : o.op = .call { callee := .builtin .copy, args := #[d, s], argTypes := #[t, t] }) (ht : P.underlying t = some (.slice e)) (hsz : (P.info? e).map (·.size) = some 1)
    (g n c : Nat) (A : Option Addr) (xs : List Value) (hn : xs.length = n) (hd : a.eval d = .slice (some ⟨g, 0, none⟩) n n) (hs : a.eval s = .slice A n c) (cur : Array Value) (hcur : cur.size = n) (hg : w.heap[g]? = some (.cells cur e (0, 0)))
    (B : Nat) (hr : Rd w B A xs) (h1 : ∀ u ∈ xs, u.oneCell' = true) (hm : n ≤ maxLen)
    (h : ∀ w', Own w' g e (.slice (some ⟨g, 0, none⟩) n n) xs → Below g w w' → wpList P ops Q rest (a.put o.dst (goInt n)) w') : wpList P ops Q (o :: rest) a w := by
  subst hn
  refine wpList_copy_splice hgd d s t t ho e ht hsz (some ⟨g, 0, none⟩) A xs.length xs.length xs.length c hd hs g 0 cur.toList e (by simpa using hg) xs (by simp) ?_ (by simp; omega) h1 g w (Below.refl _ _) (Nat.le_refl _) ?_
  · intro hp
    obtain ⟨x, hx, _, hc⟩ := hr hp
    exact ⟨rfl, x, hx, hc⟩
  · intro w' hw hb
    refine h w' (Own.of_block ?_ (Nat.le_refl _) hm) hb
    have := hw.out
    unfold splice at this
    rw [List.take_zero, List.nil_append, Nat.zero_add, List.drop_eq_nil_of_le (by simp; omega), List.append_nil] at this
    exact this
/-! ### sums of lengths; a yes that says something -/
def tot (l : List ByteArray) : Nat := (l.map ByteArray.size).sum
theorem tot_append (a b : List ByteArray) : tot (a ++ b) = tot a + tot b := by simp [tot]
theorem tot_step (l : List ByteArray) (k : Nat) (h : k < l.length) : tot (l.take (k + 1)) = tot (l.take k) + l[k].size := by
  rw [List.take_succ_eq_append_getElem h, tot_append]; simp [tot]
theorem tot_le (l : List ByteArray) (k : Nat) : tot (l.take k) ≤ tot l := by
  conv => rhs; rw [← List.take_append_drop k l, tot_append]
  omega
theorem tot_mem (l : List ByteArray) (k : Nat) (h : k < l.length) : l[k].size ≤ tot l := by
  have := tot_step l k h; have := tot_le l (k + 1); omega
def Bd (P : Prop) (w : World) (e : Ending) (w' : World) : Prop := ∃ b : Bool, e = .returned (.bool b) ∧ (b = true → P) ∧ w = w'
end Go.Proofs.YtpglhdmcbbghpaaFmt.Sls
