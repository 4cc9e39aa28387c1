/- Slices whose elements take one cell: what reads as a list of cells, rows of the call's own, append and copy onto them. Lists of bytes and of strings as cells. No program in it. -/
import Derived.Test.YtpoakndmajoiaaaFmtBase
import Derived.WalkKit
import Derived.Below
import Derived.Deep.OwnRows
import Derived.Maps.AppendAt
import Derived.OneCell
import Derived.Laws.OwnMore
import Derived.Laws.CopyOwn
import Derived.OwnWalk
import Derived.Lib.AppendStr
import Derived.Laws.CopyRow
import Derived.Deep.RegionHeld3
namespace Go.Proofs.YtpoakndmajoiaaaFmt.Sls
open Go.RowKit Go.Deep Go.Proofs.YtpoakndmajoiaaaFmt.Base
set_option linter.unusedVariables false
def bv (l : List UInt8) : List Value := l.map fun c => .int .u8 (c.toNat : Int)
def sv (l : List ByteArray) : List Value := l.map Value.string
theorem bv_len (l : List UInt8) : (bv l).length = l.length := by simp [bv]
theorem sv_len (l : List ByteArray) : (sv l).length = l.length := by simp [sv]
theorem bv_append (a b : List UInt8) : bv (a ++ b) = bv a ++ bv b := by simp [bv]
theorem sv_append (a b : List ByteArray) : sv (a ++ b) = sv a ++ sv b := by simp [sv]
theorem bv_get (l : List UInt8) (j : Nat) : (bv l)[j]? = (l[j]?).map fun c => .int .u8 (c.toNat : Int) := by simp [bv]
theorem sv_get (l : List ByteArray) (j : Nat) : (sv l)[j]? = (l[j]?).map Value.string := by simp [sv]
theorem bv_at (l : List UInt8) (j : Nat) (h : j < l.length) : (bv l)[j]? = some (.int .u8 (l[j].toNat : Int)) := by rw [bv_get, List.getElem?_eq_getElem h]; rfl
theorem sv_at (l : List ByteArray) (j : Nat) (h : j < l.length) : (sv l)[j]? = some (.string l[j]) := by rw [sv_get, List.getElem?_eq_getElem h]; rfl
theorem bv_one (l : List UInt8) : ∀ u ∈ bv l, u.oneCell' = true := by
  intro u hu
  simp only [bv, List.mem_map] at hu
  obtain ⟨c, _, rfl⟩ := hu
  rfl
theorem sv_one (l : List ByteArray) : ∀ u ∈ sv l, u.oneCell' = true := by
  intro u hu
  simp only [sv, List.mem_map] at hu
  obtain ⟨c, _, rfl⟩ := hu
  rfl
theorem lt_cell {w : World} {a : Addr} {v : Value} (h : w.cell? a = some v) : a.block < w.heap.size := by
  rcases Nat.lt_or_ge a.block w.heap.size with hlt | hge
  · exact hlt
  · rw [World.cell?, Array.getElem?_eq_none hge] at h; cases h
theorem add_block (x : Addr) (j : Nat) : (x.add j).block = x.block := by unfold Addr.add; split <;> rfl
/-- The slice at A reads as the cells xs and lies below block B. -/
def Rd (w : World) (B : Nat) (A : Option Addr) (xs : List Value) : Prop :=
  0 < xs.length → ∃ x, A = some x ∧ x.block < B ∧ ∀ j u, xs[j]? = some u → w.cell? (x.add j) = some u
section
variable {w w' : World} {B B' base e : Nat} {A : Option Addr} {xs : List Value} {v u : Value}
theorem Rd.to (h : Rd w B A xs) (hk : ∀ p : Addr, p.block < B → w'.cell? p = w.cell? p) : Rd w' B A xs := by
  intro hl
  obtain ⟨x, hx, hb, hc⟩ := h hl
  exact ⟨x, hx, hb, fun j c hj => (hk _ (by rw [add_block]; exact hb)).trans (hc j c hj)⟩
theorem Rd.below (h : Rd w B A xs) (hb : Below B w w') : Rd w' B A xs := h.to fun _ hp => hb.cell hp
theorem Rd.up (h : Rd w B A xs) (hb : B ≤ B') : Rd w B' A xs := fun hl => by
  obtain ⟨x, hx, h1, hc⟩ := h hl
  exact ⟨x, hx, by omega, hc⟩
theorem Rd.later (h : Rd w w.heap.size A xs) (hb : Below w.heap.size w w') : Rd w' w'.heap.size A xs := (h.below hb).up hb.size
theorem Rd.at_ (h : Rd w B A xs) {k : Nat} {u : Value} (hk : xs[k]? = some u) : ∃ x, A = some x ∧ x.block < B ∧ w.cell? (x.add k) = some u := by
  obtain ⟨x, hx, h1, hc⟩ := h (by have := (List.getElem?_eq_some_iff.1 hk).1; omega)
  exact ⟨x, hx, h1, hc k _ hk⟩
theorem Rd.nil (w : World) (B : Nat) (A : Option Addr) : Rd w B A [] := fun h => absurd h (by simp)
/-- A row of the call's own: v has the cells xs, of element type e, in a block from base on; what is marked of it, if anything, lies behind its end. -/
def Own (w : World) (base e : Nat) (v : Value) (xs : List Value) : Prop :=
  (v = .slice none 0 0 ∧ xs = []) ∨
  ∃ (g cap : Nat) (cur : Array Value) (mk : Nat × Nat), v = .slice (some ⟨g, 0, none⟩) xs.length cap ∧ base ≤ g ∧ w.heap[g]? = some (.cells cur e mk) ∧ (mk.2 = 0 ∨ cap ≤ mk.1) ∧ xs.length ≤ cap ∧ cap ≤ maxLen ∧ cur.size = cap ∧ cur.toList.take xs.length = xs
theorem Own.of_owns {n : Nat} (h : w.ownsRow base e 1 v n xs) : Own w base e v xs := by
  obtain ⟨h1, ⟨h2, h3⟩ | ⟨g, cap, cur, h2, h3, h4, h5, h6, h7, h8⟩⟩ := h
  · subst h3
    exact .inl ⟨h2, List.eq_nil_of_length_eq_zero (by omega)⟩
  · rw [Nat.mul_one] at h1 h7 h8
    subst h1
    exact .inr ⟨g, cap, cur, (0, 0), h2, h3, h4, .inl rfl, h5, h6, h7, h8⟩
theorem Own.form (h : Own w base e v xs) : ∃ A c, v = .slice A xs.length c := by
  rcases h with ⟨rfl, rfl⟩ | ⟨g, cap, cur, mk, rfl, _⟩
  · exact ⟨none, 0, rfl⟩
  · exact ⟨_, _, rfl⟩
theorem Own.shape (h : Own w base e v xs) (k : Nat) (hk : v.ownBlock = some k) : ∃ cur mk, w.heap[k]? = some (.cells cur e mk) := by
  rcases h with ⟨rfl, _⟩ | ⟨g, cap, cur, mk, rfl, _, hh, _⟩
  · cases hk
  · injection hk with hk
    subst hk
    exact ⟨_, _, hh⟩
theorem Own.lt (h : Own w base e v xs) : ∀ g, v.ownBlock = some g → base ≤ g ∧ g < w.heap.size := by
  intro k hk
  rcases h with ⟨rfl, _⟩ | ⟨g, cap, cur, mk, rfl, hb, hh, _⟩
  · cases hk
  · injection hk with hk
    subst hk
    exact ⟨hb, lt_of_block hh⟩
theorem Own.cells (h : Own w base e v xs) {g : Nat} (hg : v.ownBlock = some g) : ∀ j u, xs[j]? = some u → w.cell? ((⟨g, 0, none⟩ : Addr).add j) = some u := by
  intro j u hu
  rcases h with ⟨rfl, _⟩ | ⟨k, cap, cur, mk, rfl, _, hh, _, _, _, _, ht⟩
  · cases hg
  · injection hg with hg
    subst hg
    have e1 : (⟨k, 0, none⟩ : Addr).add j = ⟨k, j, none⟩ := by unfold Addr.add; split <;> simp_all
    rw [e1, World.cell?, hh]
    have hj := (List.getElem?_eq_some_iff.1 hu).1
    rw [← ht, List.getElem?_take, if_pos hj] at hu
    simpa using hu
theorem Own.rd {n c : Nat} (h : Own w base e (.slice A n c) xs) : Rd w w.heap.size A xs := by
  intro hl
  rcases hA : A with _ | a
  · rcases h with ⟨_, rfl⟩ | ⟨g, cap, cur, mk, hv, _⟩
    · simp at hl
    · rw [hA] at hv; cases hv
  · have hc := h.cells (g := a.block) (by rw [hA]; rfl)
    have hlt := h.lt a.block (by rw [hA]; rfl)
    rcases h with ⟨hv, _⟩ | ⟨g, cap, cur, mk, hv, _⟩
    · rw [hA] at hv; cases hv
    · rw [hA] at hv
      injection hv with hv _ _
      injection hv with hv
      subst hv
      exact ⟨_, rfl, hlt.2, hc⟩
theorem Own.at' (h : Own w base e v xs) (hk : ∀ g, v.ownBlock = some g → w'.heap[g]? = w.heap[g]?) : Own w' base e v xs := by
  rcases h with h0 | ⟨g, cap, cur, mk, rfl, hb, hh, hr⟩
  · exact .inl h0
  · exact .inr ⟨g, cap, cur, mk, rfl, hb, (hk g rfl).trans hh, hr⟩
theorem Own.of_row {g n : Nat} {f : Nat → Value} (h : w.rowIs g e n f) (hn : xs.length = n) (hf : ∀ i, i < n → xs[i]? = some (f i)) (hb : base ≤ g) (hm : n ≤ maxLen) : Own w base e (.slice (some ⟨g, 0, none⟩) n n) xs := by
  obtain ⟨c, hh, hs, hc⟩ := h
  subst hn
  refine .inr ⟨g, xs.length, c, (0, 0), rfl, hb, hh, .inl rfl, Nat.le_refl _, hm, hs, ?_⟩
  apply List.ext_getElem?
  intro i
  rw [List.getElem?_take]
  by_cases hi : i < xs.length
  · rw [if_pos hi, Array.getElem?_toList, hc i hi, hf i hi]
  · rw [if_neg hi, List.getElem?_eq_none (by omega)]
theorem Own.of_block {g : Nat} (h : w.heap[g]? = some (.cells xs.toArray e (0, 0))) (hb : base ≤ g) (hm : xs.length ≤ maxLen) : Own w base e (.slice (some ⟨g, 0, none⟩) xs.length xs.length) xs :=
  .inr ⟨g, xs.length, xs.toArray, (0, 0), rfl, hb, h, .inl rfl, Nat.le_refl _, hm, by simp, by simp⟩
theorem Own.nil (w : World) (base e : Nat) : Own w base e (.slice none 0 0) [] := .inl ⟨rfl, rfl⟩
theorem Own.alloc (h : Own w base e v xs) (o : Obj) : Own (w.alloc o) base e v xs := h.at' fun g hg => heap_alloc_old w o (h.lt g hg).2
theorem Own.drew (h : Own w base e v xs) : Own w.drew base e v xs := h.at' fun g hg => rfl
theorem Own.to {row : Option Nat} (h : Own w base e v xs) (hg : w.grownBy w' row) (hne : v.ownBlock = none ∨ v.ownBlock ≠ row) : Own w' base e v xs :=
  h.at' fun g hk => hg.block g (h.lt g hk).2 (fun e => by rcases hne with h1 | h1; (rw [h1] at hk; cases hk); exact h1 (hk.trans e))
theorem Own.set {a : Addr} (h : Own w base e v xs) (ha : v.ownBlock ≠ some a.block) : Own (w.setCell a u) base e v xs := h.at' fun g hg => Below.heap_setCell w a u g (fun e => ha (by rw [hg, e]))
theorem grown_below (h : Below w.heap.size w w') (row : Option Nat) : w.grownBy w' row := ⟨h.os, h.tape, h.output, h.size, fun i hi _ => h.block i hi⟩
theorem Own.keep (h : Own w base e v xs) (hb : Below w.heap.size w w') : Own w' base e v xs := by
  rcases hv : v.ownBlock with _ | k
  · exact h.to (row := none) (grown_below hb _) (.inl hv)
  · exact h.to (row := none) (grown_below hb _) (.inr (by rw [hv]; simp))
end
theorem rd_of_bytes {w : World} {a : Option Addr} {len cap : Nat} {zs : List Int} (h : IsRow .u8 w a len cap zs) : (∃ l : List UInt8, l.length = len ∧ Rd w w.heap.size a (bv l)) ∧ (a = none → len = 0 ∧ cap = 0) ∧ len ≤ maxLen := by
  rcases h with ⟨rfl, rfl, rfl, rfl⟩ | ⟨x, rfl, hlc, hm, hz, hc, hw⟩
  · exact ⟨⟨[], rfl, fun hl => absurd hl (by simp [bv])⟩, fun _ => ⟨rfl, rfl⟩, by unfold maxLen; omega⟩
  · refine ⟨⟨(zs.take len).map fun z => UInt8.ofNat z.toNat, by simp; omega, fun hl => ⟨x, rfl, ?_, fun j c hj => ?_⟩⟩, fun h => (by cases h), by omega⟩
    · have h0 := hc 0 (by rw [bv_len] at hl; simp at hl; omega)
      have := lt_cell h0
      rw [add_block] at this; exact this
    · rw [bv_get, List.getElem?_map, List.getElem?_take] at hj
      by_cases hjl : j < len
      · rw [if_pos hjl] at hj
        have hjz : j < zs.length := by omega
        rw [List.getElem?_eq_getElem hjz] at hj
        simp at hj
        rw [hc j hjz]
        have hwf := hw _ (List.getElem_mem hjz)
        have e : zs.getD j 0 = zs[j] := by simp [List.getD, hjz]
        rw [e, ← hj]
        have m0 : IntKind.u8.min = 0 := rfl
        have m1 : IntKind.u8.max = 255 := rfl
        simp [Lit.wf, m0, m1] at hwf
        congr 2
        omega
      · rw [if_neg hjl] at hj; simp at hj
theorem rd_of_strs {w : World} {a : Option Addr} {len cap : Nat} {zs : List ByteArray} (h : IsStrs w a len cap zs) : (∃ l : List ByteArray, l.length = len ∧ Rd w w.heap.size a (sv l) ∧ ∀ s ∈ l, s.size ≤ maxLen) ∧ (a = none → len = 0 ∧ cap = 0) ∧ len ≤ maxLen := by
  rcases h with ⟨rfl, rfl, rfl, rfl⟩ | ⟨x, rfl, hlc, hm, hz, hc, hw⟩
  · exact ⟨⟨[], rfl, fun hl => absurd hl (by simp [sv]), by simp⟩, fun _ => ⟨rfl, rfl⟩, by unfold maxLen; omega⟩
  · refine ⟨⟨zs.take len, by simp; omega, fun hl => ⟨x, rfl, ?_, fun j c hj => ?_⟩, fun s hs => hw s (List.mem_of_mem_take hs)⟩, fun h => (by cases h), by omega⟩
    · have h0 := hc 0 (by rw [sv_len] at hl; simp at hl; omega)
      have := lt_cell h0
      rw [add_block] at this; exact this
    · rw [sv_get, List.getElem?_take] at hj
      by_cases hjl : j < len
      · rw [if_pos hjl] at hj
        have hjz : j < zs.length := by omega
        rw [List.getElem?_eq_getElem hjz] at hj
        simp at hj
        rw [hc j hjz, ← hj]
        simp [List.getD, hjz]
      · rw [if_neg hjl] at hj; simp at hj
/-! ### append onto such a row -/
/-- Cells laid into a row whose mark, if any, lies behind its end. -/
theorem lay_cells (P : Program) (g o : Nat) (t : TypeId) (mk : Nat × Nat) : ∀ (vs : List Value) (i : Nat) (cur : Array Value) (w : World), w.heap[g]? = some (.cells cur t mk) → (mk.2 = 0 ∨ cur.size ≤ mk.1) → o + i + vs.length ≤ cur.size → (∀ v ∈ vs, v.oneCell' = true) →
    (storeCells ⟨g, o, none⟩ vs i).run P w = .ok () (w.setRow g (cur.toList.take (o + i) ++ vs ++ cur.toList.drop (o + i + vs.length)).toArray)
  | [], i, cur, w, hg, _, _, _ => by
    simp only [storeCells, List.append_nil, List.length_nil, Nat.add_zero, List.take_append_drop, Array.toArray_toList]
    rw [setRow_self w g cur t mk hg]
    rfl
  | v :: rest, i, cur, w, hg, hm, hl, h1 => by
    rw [List.length_cons] at hl
    have hi : o + i < cur.size := by omega
    have ha : (⟨g, o, none⟩ : Addr).add i = ⟨g, o + i, none⟩ := by unfold Addr.add; split <;> simp_all
    have hc : w.cell? ⟨g, o + i, none⟩ = some cur[o + i] := by simp [World.cell?, hg, hi]
    have hf : w.frozen? ⟨g, o + i, none⟩ = false := by
      obtain ⟨lo, up⟩ := mk
      simp only at hm
      simp only [World.frozen?, hg, Bool.and_eq_false_iff, decide_eq_false_iff_not]
      rcases hm with hm | hm
      · right; omega
      · left; omega
    have hs : (store ((⟨g, o, none⟩ : Addr).add i) v).run P w = .ok () (w.setRow g (cur.setIfInBounds (o + i) v)) := by
      rw [ha, run_store P w _ v _ (h1 v (by simp)), hc]
      simp [hf, setCell_eq_setRow w g (o + i) cur t mk v hg]
    have ih := lay_cells P g o t mk rest (i + 1) (cur.setIfInBounds (o + i) v) (w.setRow g (cur.setIfInBounds (o + i) v)) (setRow_heap w g cur _ t _ hg) (by simpa using hm) (by simp; omega) (fun x hx => h1 x (by simp [hx]))
    simp only [storeCells, Sem.run_bind, hs, Result.andThen_ok, ih, setRow_setRow]
    congr 3
    have e := list_seg_step cur.toList (o + i) v rest (by simp; omega)
    simpa [Array.toList_setIfInBounds, Nat.add_assoc] using e
theorem Own.base {w : World} {b b' e : Nat} {v : Value} {xs : List Value} (h : Own w b e v xs) (hb : b' ≤ b) : Own w b' e v xs := by
  rcases h with h0 | ⟨g, cap, cur, mk, h1, h2, h3⟩
  · exact .inl h0
  · exact .inr ⟨g, cap, cur, mk, h1, Nat.le_trans hb h2, h3⟩
section
variable {w : World} {base e : Nat} {xs : List Value}
/-- What the row is behind its cells were laid into it. -/
theorem Own.laid {g cap : Nat} {cur : Array Value} {mk : Nat × Nat} {ks : List Value} (hb : base ≤ g) (hg : w.heap[g]? = some (.cells cur e mk)) (hm : mk.2 = 0 ∨ cap ≤ mk.1) (hc : cap ≤ maxLen) (hs : cur.size = cap) (ht : cur.toList.take xs.length = xs) (hr : xs.length + ks.length ≤ cap) :
    Own (w.setRow g (cur.toList.take xs.length ++ ks ++ cur.toList.drop (xs.length + ks.length)).toArray) base e (.slice (some ⟨g, 0, none⟩) (xs.length + ks.length) cap) (xs ++ ks) := by
  refine .inr ⟨g, cap, _, mk, by rw [List.length_append], hb, setRow_heap w g cur _ e _ hg, hm, by rw [List.length_append]; exact hr, hc, ?_, ?_⟩
  · simp only [List.size_toArray, List.length_append, List.length_take, List.length_drop, Array.length_toList]
    omega
  · rw [ht]
    exact List.take_left
theorem Own.grew {g : Nat} {ks zs : List Value} {cap : Nat} {w2 : World} (h : w2.heap[g]? = some (.cells (xs.toArray ++ ks.toArray ++ zs.toArray) e (0, 0))) (hb : base ≤ g) (hc : cap ≤ maxLen) (hz : xs.length + ks.length + zs.length = cap) : Own w2 base e (.slice (some ⟨g, 0, none⟩) (xs.length + ks.length) cap) (xs ++ ks) := by
  refine .inr ⟨g, cap, _, (0, 0), by rw [List.length_append], hb, h, .inl rfl, by rw [List.length_append]; omega, hc, ?_, ?_⟩
  · simp only [Array.size_append, List.size_toArray]; omega
  · simp only [Array.toList_append, List.append_assoc]
    rw [← List.append_assoc]
    exact List.take_left
end
theorem zero_list (z : Array Value) (n : Nat) : ∃ l : List Value, Builtin.zeroCells z n = l.toArray ∧ l.length = n * z.size := ⟨(Builtin.zeroCells z n).toList, by simp, by rw [Array.length_toList, size_zeroCells]⟩
/-- append of a slice, at a run. -/
theorem run_app {P : Program} (w : World) (t ty e : TypeId) (i : TypeInfo) (z : Value) (bytes : Nat) (ht : P.underlying t = some (.slice e)) (hi : P.info? e = some i) (hz0 : i.zero = some z) (hz1 : i.size = 1) (hz2 : i.bytes = bytes) (hz : z.cells.size = 1)
    (base : Nat) (v : Value) (xs : List Value) (hown : Own w base e v xs) (ad : Addr) (m c : Nat) (ks : List Value) (hm : ks.length = m) (hks : ∀ j u, ks[j]? = some u → w.cell? (ad.add j) = some u) (h1 : ∀ u ∈ ks, u.oneCell' = true)
    (h63 : xs.length + m ≤ maxLen) (hby : (xs.length + m) * bytes ≤ 140737488355328) (hbase : base ≤ w.heap.size) :
    ∃ v' w', (Builtin.append_ #[t, t] ty #[v, .slice (some ad) m c]).run P w = .ok v' w' ∧ Own w' base e v' (xs ++ ks) ∧ w.grownBy w' v.ownBlock ∧ (v'.ownBlock = v.ownBlock ∨ v'.ownBlock = some w.heap.size) := by
  rcases hown with ⟨rfl, rfl⟩ | ⟨g, cap, cur, mk, rfl, hb, hg, hmk, hn, hc, hs, htk⟩
  · obtain ⟨v', w', hr, h2, h3, _, h5⟩ := run_append_own_at (P := P) w base t ty e i z 1 bytes ht hi hz0 hz1 hz2 hz (by omega) (.slice none 0 0) 0 [] (World.ownsRow_nil w base e 1) ad m c ks (by rw [Nat.mul_one]; exact hm) hks h1 (by simpa using h63) (by simpa using hby) hbase
    exact ⟨v', w', hr, Own.of_owns h2, h3, h5⟩
  · subst hm
    by_cases hroom : xs.length + ks.length ≤ cap
    · have hf := run_firstCells_some (P := P) w 1 ks.length ad ks.length c ks (by rw [Nat.mul_one]) hks
      have hst := lay_cells P g xs.length e mk ks 0 cur w hg (by rw [hs]; exact hmk) (by omega) h1
      simp only [Nat.add_zero] at hst
      refine ⟨_, _, ?_, Own.laid hb hg hmk hc hs htk hroom, ⟨rfl, rfl, rfl, by simp, fun k _ hk => setRow_other w g k _ (fun e => hk (by simp [Value.ownBlock, e]))⟩, .inl rfl⟩
      simp [Builtin.append_, run_underlying ht, sizeOf, typeInfo, hi, hz1, Builtin.lenOf, hroom, hf, Addr.add_lit, hst]
    · have h9 : xs.length + ks.length ≤ 9223372036854775807 := by simp only [maxLen] at h63; omega
      have holds : ∀ j u, xs[j]? = some u → w.cell? ((⟨g, 0, none⟩ : Addr).add j) = some u := Own.cells (w := w) (base := base) (e := e) (v := .slice (some ⟨g, 0, none⟩) xs.length cap) (.inr ⟨g, cap, cur, mk, rfl, hb, hg, hmk, hn, hc, hs, htk⟩) rfl
      have hr := run_append_grow (P := P) w t ty e i z ht hi hz0 ⟨g, 0, none⟩ xs.length cap xs (by rw [hz1, Nat.mul_one]) holds ad ks.length c ks (by rw [hz1, Nat.mul_one]) hks (by omega) (by omega) (by rw [hz2]; exact growslice_fits (by omega) hby)
      have hge := grownCap_ge w (xs.length + ks.length) cap e
      have hcm := grownCap_le_maxLen w (xs.length + ks.length) cap e h63
      obtain ⟨zs, hzs, hzl⟩ := zero_list z.cells (grownCap w (xs.length + ks.length) cap e - (xs.length + ks.length))
      rw [hz, Nat.mul_one] at hzl
      rw [hzs] at hr
      exact ⟨_, _, hr, Own.grew (heap_alloc_new w.drew _) hbase hcm (by omega), ⟨rfl, rfl, rfl, by simp, fun k hk _ => heap_alloc_old w.drew _ hk⟩, .inr rfl⟩
/-- append of a string, at a run. -/
theorem run_app_str {P : Program} (w : World) (t u ty e : TypeId) (i : TypeInfo) (ht : P.underlying t = some (.slice e)) (hu : P.underlying u = some .string) (hi : P.info? e = some i) (hz0 : i.zero = some (.int .u8 0)) (hz1 : i.size = 1) (hz2 : i.bytes = 1)
    (base : Nat) (v : Value) (xs : List Value) (hown : Own w base e v xs) (s : ByteArray) (h63 : xs.length + s.size ≤ maxLen) (hby : xs.length + s.size ≤ 140737488355328) (hbase : base ≤ w.heap.size) :
    ∃ v' w', (Builtin.append_ #[t, u] ty #[v, .string s]).run P w = .ok v' w' ∧ Own w' base e v' (xs ++ Lib.strCells s) ∧ w.grownBy w' v.ownBlock ∧ (∀ g, v'.ownBlock = some g → v.ownBlock = some g ∨ w.heap.size ≤ g) := by
  rcases hown with ⟨rfl, rfl⟩ | ⟨g, cap, cur, mk, rfl, hb, hg, hmk, hn, hc, hs, htk⟩
  · obtain ⟨v', w', hr, h2, h3, _⟩ := Lib.run_append_own_string (P := P) w w.heap.size t u ty e i ht hu hi hz0 hz1 hz2 (.slice none 0 0) 0 [] (World.ownsRow_nil w w.heap.size e 1) s (by simpa using h63) (by simpa using hby) (Nat.le_refl _)
    exact ⟨v', w', hr, (Own.of_owns h2).base hbase, h3, fun g hk => .inr (World.ownsRow.lt h2 g hk).1⟩
  · have hl := Lib.strCells_length s
    by_cases hroom : xs.length + s.size ≤ cap
    · have hf := Lib.run_firstCells_string (P := P) w 1 s
      have hst := lay_cells P g xs.length e mk (Lib.strCells s) 0 cur w hg (by rw [hs]; exact hmk) (by omega) (Lib.strCells_oneCell s)
      simp only [Nat.add_zero] at hst
      have hlaid := Own.laid (w := w) (ks := Lib.strCells s) hb hg hmk hc hs htk (by omega)
      rw [hl] at hst hlaid
      refine ⟨_, _, ?_, hlaid, ⟨rfl, rfl, rfl, by simp, fun k _ hk => setRow_other w g k _ (fun e => hk (by simp [Value.ownBlock, e]))⟩, fun k hk => .inl hk⟩
      simp [Builtin.append_, run_underlying ht, run_underlying hu, sizeOf, typeInfo, hi, hz1, Builtin.lenOf, hroom, hf, Addr.add_lit, hst]
    · have h9 : xs.length + s.size ≤ 9223372036854775807 := by simp only [maxLen] at h63; omega
      have holds : ∀ j u, xs[j]? = some u → w.cell? ((⟨g, 0, none⟩ : Addr).add j) = some u := Own.cells (w := w) (base := base) (e := e) (v := .slice (some ⟨g, 0, none⟩) xs.length cap) (.inr ⟨g, cap, cur, mk, rfl, hb, hg, hmk, hn, hc, hs, htk⟩) rfl
      have hr := Lib.run_append_grow_string (P := P) w t u ty e i (.int .u8 0) ht hu hi hz0 ⟨g, 0, none⟩ xs.length cap xs (by rw [hz1, Nat.mul_one]) holds s (by omega) (by omega) (by rw [hz2]; exact growslice_fits (by omega) (by omega))
      have hge := grownCap_ge w (xs.length + s.size) cap e
      have hcm := grownCap_le_maxLen w (xs.length + s.size) cap e h63
      obtain ⟨zs, hzs, hzl⟩ := zero_list (Value.int IntKind.u8 0).cells (grownCap w (xs.length + s.size) cap e - (xs.length + s.size))
      rw [show (Value.int IntKind.u8 0).cells.size = 1 from rfl, Nat.mul_one] at hzl
      rw [hzs] at hr
      have hgrew := Own.grew (xs := xs) (ks := Lib.strCells s) (zs := zs) (e := e) (base := base) (cap := grownCap w (xs.length + s.size) cap e) (heap_alloc_new w.drew _) hbase hcm (by omega)
      rw [hl] at hgrew
      exact ⟨_, _, hr, hgrew, ⟨rfl, rfl, rfl, by simp, fun k hk _ => heap_alloc_old w.drew _ hk⟩, fun k hk => .inr (Nat.le_of_eq (by simpa [Value.ownBlock] using hk))⟩
/-- append onto a row of the call's own, the source nil or not. -/
theorem append_any {P : Program} (w : World) {ops : Array Oper} {rest : List Oper} {o : Oper} {a : Act} {Q : Exit → Act → World → Prop} (hgd : o.guard = none) (s x : Operand) (t e : TypeId)
    (ho : o.op = .call { callee := .builtin .append, args := #[s, x], argTypes := #[t, t] }) (base : Nat) (ht : P.underlying t = some (.slice e)) (z : Value) (bytes : Nat) (hz : z.cells.size = 1) (hby : bytes ≤ 16)
    (hinfo : (P.info? e).map (fun i => (i.zero, i.size, i.bytes)) = some (some z, 1, bytes))
    (v : Value) (l : List Value) (hs : a.eval s = v) (hown : Own w base e v l) (B : Nat) (A : Option Addr) (m c : Nat) (k : List Value) (hm : k.length = m) (hx : a.eval x = .slice A m c) (hr : Rd w B A k) (h1 : ∀ u ∈ k, u.oneCell' = true)
    (hlen : l.length + m ≤ 1073741824) (hbase : base ≤ w.heap.size)
    (h : ∀ v' w', Own w' base e v' (l ++ k) → w.grownBy w' v.ownBlock → (v'.ownBlock = v.ownBlock ∨ v'.ownBlock = some w.heap.size) → wpList P ops Q rest (a.put o.dst v') w') : wpList P ops Q (o :: rest) a w := by
  obtain ⟨i, hi, hz0, hz1, hz2⟩ := info_parts hinfo
  subst hm
  rcases A with _ | ad
  · have hk : k = [] := by
      rcases k with _ | ⟨b, k⟩
      · rfl
      · obtain ⟨x, hx, _⟩ := hr (by simp)
        cases hx
    subst hk
    refine wpList_plain hgd fun K hK => ?_
    have hrun : (Builtin.append_ #[t, t] o.type #[v, .slice none 0 c]).run P w = .ok v w := by
      rcases hown with ⟨rfl, h0⟩ | ⟨g, cap, cur, mk, rfl, _, _, _, hnc, _⟩
      · simp [Builtin.append_, run_underlying ht, sizeOf, typeInfo, hi, Builtin.lenOf, Builtin.firstCells]
      · simp [Builtin.append_, run_underlying ht, sizeOf, typeInfo, hi, Builtin.lenOf, Builtin.firstCells, hnc, storeCells]
    unfold Oper.wp execOp
    simp only [List.length_nil] at hx
    simp only [ho, resolve, invoke, builtin, Sem.run_bind, Sem.run_pure, Result.andThen_ok, List.map_toArray, List.map_cons, List.map_nil, hs, hx, hrun]
    exact hK _ _ (h v w (by rw [List.append_nil]; exact hown) (World.grownBy.refl w _) (.inl rfl))
  · refine wpList_plain hgd fun K hK => ?_
    obtain ⟨v', w', hrun, h2, h3, h4⟩ := run_app (P := P) w t o.type e i z bytes ht hi hz0 hz1 hz2 hz base v l hown ad k.length c k rfl (fun j u hj => by
      obtain ⟨x', hx', _, hc⟩ := hr (by have := (List.getElem?_eq_some_iff.1 hj).1; omega)
      injection hx' with hx'
      subst hx'
      exact hc j u hj) h1 (by unfold maxLen; omega) (Nat.le_trans (Nat.mul_le_mul hlen hby) (by omega)) hbase
    unfold Oper.wp execOp
    simp only [ho, resolve, invoke, builtin, Sem.run_bind, Sem.run_pure, Result.andThen_ok, List.map_toArray, List.map_cons, List.map_nil, hs, hx, hrun]
    exact hK _ _ (h v' w' h2 h3 h4)
/-- append at a step of a region that draws its order. -/
theorem step_app {P : Program} (w : World) {ops : Array Oper} {o : Oper} {a : Act} {K : Act → World → Prop} {Q : Exit → Act → World → Prop} {E : Prop} (hgd : o.guard = none) (s x : Operand) (t : TypeId)
    (ho : o.op = .call { callee := .builtin .append, args := #[s, x], argTypes := #[t, t] }) (base : Nat) (e : TypeId) (i : TypeInfo) (z : Value) (bytes : Nat) (ht : P.underlying t = some (.slice e)) (hi : P.info? e = some i) (hz0 : i.zero = some z) (hz1 : i.size = 1) (hz2 : i.bytes = bytes) (hz : z.cells.size = 1)
    (v : Value) (l : List Value) (hs : a.eval s = v) (hown : Own w base e v l) (ad : Addr) (m c : Nat) (k : List Value) (hx : a.eval x = .slice (some ad) m c) (hm : k.length = m) (hk : ∀ j u, k[j]? = some u → w.cell? (ad.add j) = some u) (h1 : ∀ u ∈ k, u.oneCell' = true)
    (h63 : l.length + m ≤ maxLen) (hby : (l.length + m) * bytes ≤ 140737488355328) (hbase : base ≤ w.heap.size)
    (h : ∀ v' w', Own w' base e v' (l ++ k) → w.grownBy w' v.ownBlock → (v'.ownBlock = v.ownBlock ∨ v'.ownBlock = some w.heap.size) → K (a.put o.dst v') w') :
    if Region.wanted o (yielded ops a.tmps) = true then Oper.wp P o a w K Q else E := by
  have hw : Region.wanted o (yielded ops a.tmps) = true := by simp [Region.wanted, hgd]
  rw [if_pos hw]
  obtain ⟨v', w', hrun, h2, h3, h4⟩ := run_app (P := P) w t o.type e i z bytes ht hi hz0 hz1 hz2 hz base v l hown ad m c k hm hk h1 h63 hby hbase
  unfold Oper.wp execOp
  simp only [ho, resolve, invoke, builtin, Sem.run_bind, Sem.run_pure, Result.andThen_ok, List.map_toArray, List.map_cons, List.map_nil, hs, hx, hrun]
  exact h v' w' h2 h3 h4
/-- copy into a row that was made for it. -/
theorem copy_all {P : Program} (w : World) {ops : Array Oper} {rest : List Oper} {o : Oper} {a : Act} {Q : Exit → Act → World → Prop} (hgd : o.guard = none) (d s : Operand) (t e : TypeId)
    (ho : o.op = .call { callee := .builtin .copy, args := #[d, s], argTypes := #[t, t] }) (ht : P.underlying t = some (.slice e)) (hsz : (P.info? e).map (·.size) = some 1)
    (g n c : Nat) (A : Option Addr) (xs : List Value) (hn : xs.length = n) (hd : a.eval d = .slice (some ⟨g, 0, none⟩) n n) (hs : a.eval s = .slice A n c) (cur : Array Value) (hcur : cur.size = n) (hg : w.heap[g]? = some (.cells cur e (0, 0)))
    (B : Nat) (hr : Rd w B A xs) (h1 : ∀ u ∈ xs, u.oneCell' = true) (hm : n ≤ maxLen)
    (h : ∀ w', Own w' g e (.slice (some ⟨g, 0, none⟩) n n) xs → Below g w w' → wpList P ops Q rest (a.put o.dst (goInt n)) w') : wpList P ops Q (o :: rest) a w := by
  subst hn
  refine wpList_copy_splice hgd d s t t ho e ht hsz (some ⟨g, 0, none⟩) A xs.length xs.length xs.length c hd hs g 0 cur.toList e (by simpa using hg) xs (by simp) ?_ (by simp; omega) h1 g w (Below.refl _ _) (Nat.le_refl _) ?_
  · intro hp
    obtain ⟨x, hx, _, hc⟩ := hr hp
    exact ⟨rfl, x, hx, hc⟩
  · intro w' hw hb
    refine h w' (Own.of_block ?_ (Nat.le_refl _) hm) hb
    have := hw.out
    unfold splice at this
    rw [List.take_zero, List.nil_append, Nat.zero_add, List.drop_eq_nil_of_le (by simp; omega), List.append_nil] at this
    exact this
/-! ### sums of lengths; a yes that says something -/
def tot (l : List ByteArray) : Nat := (l.map ByteArray.size).sum
theorem tot_append (a b : List ByteArray) : tot (a ++ b) = tot a + tot b := by simp [tot]
theorem tot_step (l : List ByteArray) (k : Nat) (h : k < l.length) : tot (l.take (k + 1)) = tot (l.take k) + l[k].size := by
  rw [List.take_succ_eq_append_getElem h, tot_append]; simp [tot]
theorem tot_le (l : List ByteArray) (k : Nat) : tot (l.take k) ≤ tot l := by
  conv => rhs; rw [← List.take_append_drop k l, tot_append]
  omega
theorem tot_mem (l : List ByteArray) (k : Nat) (h : k < l.length) : l[k].size ≤ tot l := by
  have := tot_step l k h; have := tot_le l (k + 1); omega
def Bd (P : Prop) (w : World) (e : Ending) (w' : World) : Prop := ∃ b : Bool, e = .returned (.bool b) ∧ (b = true → P) ∧ w = w'
end Go.Proofs.YtpoakndmajoiaaaFmt.Sls
