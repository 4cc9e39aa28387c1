/- The printer by its contracts: a new one, its output read, bytes and a string printed, source mappings off. Conditions: lengths. -/
import Derived.Test.YtpoakndmajoiaaaFmtByw
import Derived.Laws.Tables
import Derived.Deep.RegionWith
namespace Go.Proofs.YtpoakndmajoiaaaFmt.Prq
open Go.RowKit Go.Deep Go.Proofs.YtpoakndmajoiaaaFmt.Base Go.Proofs.YtpoakndmajoiaaaFmt.Sls Go.Proofs.YtpoakndmajoiaaaFmt.Byw
set_option linter.unusedVariables false
def ft (m : Bool × Bool) : Int := if m.2 then 72057594037927936 else 0
/-- A printer at block b whose output is the slice v: no line limit, not ASCII-only, nothing unsupported, no source mappings. -/
def Prn (w : World) (b : Nat) (m : Bool × Bool) (v : Value) : Prop := ∃ cs, w.heap[b]? = some (.cells cs 85 (0, 0)) ∧ cs[9]? = some v ∧ cs[24]? = some (.int .u64 (ft m)) ∧ cs[26]? = some (.int .i64 0) ∧ cs[30]? = some (.bool m.1) ∧ cs[31]? = some (.bool false) ∧ cs[34]? = some (.bool false)
section
variable {w w' : World} {b : Nat} {m : Bool × Bool} {v : Value}
theorem Prn.cells (h : Prn w b m v) : w.cell? ⟨b, 9, none⟩ = some v ∧ w.cell? ⟨b, 24, none⟩ = some (.int .u64 (ft m)) ∧ w.cell? ⟨b, 26, none⟩ = some (.int .i64 0) ∧ w.cell? ⟨b, 30, none⟩ = some (.bool m.1) ∧ w.cell? ⟨b, 31, none⟩ = some (.bool false) ∧ w.cell? ⟨b, 34, none⟩ = some (.bool false) := by
  obtain ⟨cs, hb, h1, h2, h3, h4, h5, h6⟩ := h
  refine ⟨?_, ?_, ?_, ?_, ?_, ?_⟩ <;> simp [World.cell?, *]
theorem Prn.cell (h : Prn w b m v) : w.cell? ⟨b, 9, none⟩ = some v := h.cells.1
theorem Prn.free (h : Prn w b m v) : w.frozen? ⟨b, 9, none⟩ = false := by
  obtain ⟨cs, hb, hc⟩ := h
  simp [World.frozen?, hb]
theorem Prn.lt (h : Prn w b m v) : b < w.heap.size := by
  obtain ⟨cs, hb, hc⟩ := h
  exact lt_of_block hb
theorem Prn.of_block (h : Prn w b m v) (e : w'.heap[b]? = w.heap[b]?) : Prn w' b m v := by
  obtain ⟨cs, hb, hc⟩ := h
  exact ⟨cs, e.trans hb, hc⟩
theorem Prn.set (h : Prn w b m v) (u : Value) : Prn (w.setCell ⟨b, 9, none⟩ u) b m u := by
  obtain ⟨cs, hb, hc, h1, h2, h3, h4, h5⟩ := h
  refine ⟨cs.setIfInBounds 9 u, ?_, ?_, ?_, ?_, ?_, ?_, ?_⟩
  · simp [World.setCell, Array.getElem?_modify, hb]
  · have : 9 < cs.size := (Array.getElem?_eq_some_iff.1 hc).1
    simp [this]
  · rw [Array.getElem?_setIfInBounds_ne (by decide)]; exact h1
  · rw [Array.getElem?_setIfInBounds_ne (by decide)]; exact h2
  · rw [Array.getElem?_setIfInBounds_ne (by decide)]; exact h3
  · rw [Array.getElem?_setIfInBounds_ne (by decide)]; exact h4
  · rw [Array.getElem?_setIfInBounds_ne (by decide)]; exact h5
end
theorem own_ne {w : World} {b base : Nat} {m : Bool × Bool} {v u : Value} {xs : List Value} (h : Prn w b m v) (ho : Own w base 5 u xs) : u.ownBlock ≠ some b := by
  intro he
  obtain ⟨cur, mk, hh⟩ := ho.shape _ he
  obtain ⟨cs, hb, hc⟩ := h
  rw [hh] at hb
  injection hb with hb
  injection hb with _ ht
  exact absurd ht (by decide)
/-- Nothing has turned but the row, block b and what is new. -/
structure Two (row : Option Nat) (b : Nat) (w w' : World) : Prop where
  os : w'.os = w.os
  tape : w'.tape = w.tape
  output : w'.output = w.output
  size : w.heap.size ≤ w'.heap.size
  block : ∀ k, k < w.heap.size → some k ≠ row → k ≠ b → w'.heap[k]? = w.heap[k]?
theorem Two.below {row : Option Nat} {b B : Nat} {w w' : World} (h : Two row b w w') (hB : B ≤ w.heap.size) (hr : ∀ g, row = some g → B ≤ g) (hb : B ≤ b) : Below B w w' :=
  ⟨h.os, h.tape, h.output, h.size, fun k hk => h.block k (by omega) (fun e => by have := hr k e.symm; omega) (by omega)⟩
theorem Two.own {row : Option Nat} {b base e : Nat} {w w' : World} {v : Value} {l : List Value} (h : Two row b w w') (ho : Own w base e v l) (h1 : ∀ g, v.ownBlock = some g → row ≠ some g ∧ g ≠ b) : Own w' base e v l := by
  exact ho.at' fun g hg => h.block g (ho.lt g hg).2 (fun e => (h1 g hg).1 e.symm) (h1 g hg).2
/-- What a print leaves. -/
structure Pq (b : Nat) (m : Bool × Bool) (r : Option Nat) (base : Nat) (L : List UInt8) (w w' : World) (A : Option Addr) (n c : Nat) : Prop where
  prn : Prn w' b m (.slice A n c)
  len : n = L.length
  own : Own w' base 5 (.slice A n c) (bv L)
  two : Two r b w w'
  loc : ∀ g, (Value.slice A n c).ownBlock = some g → r = some g ∨ w.heap.size ≤ g
def Pd (b : Nat) (m : Bool × Bool) (r : Option Nat) (base : Nat) (L : List UInt8) (w : World) (e : Ending) (w' : World) : Prop :=
  e = .returned (.tuple #[]) ∧ ∃ A n c, Pq b m r base L w w' A n c
/-- One print behind another. -/
theorem Pq.trans {b base n c n' c' : Nat} {m : Bool × Bool} {r : Option Nat} {A A' : Option Addr} {L L' : List UInt8} {w w1 w2 : World} (h : Pq b m r base L w w1 A n c) (h' : Pq b m (Value.slice A n c).ownBlock base L' w1 w2 A' n' c') : Pq b m r base L' w w2 A' n' c' := by
  refine ⟨h'.prn, h'.len, h'.own, ⟨h'.two.os.trans h.two.os, h'.two.tape.trans h.two.tape, h'.two.output.trans h.two.output, Nat.le_trans h.two.size h'.two.size, fun k hk h1 h2 => (h'.two.block k (Nat.lt_of_lt_of_le hk h.two.size) (fun e => ?_) h2).trans (h.two.block k hk h1 h2)⟩, fun g hg => ?_⟩
  · rcases h.loc k e.symm with h3 | h3
    · exact h1 h3.symm
    · omega
  · rcases h'.loc g hg with h3 | h3
    · exact h.loc g h3
    · exact .inr (Nat.le_trans h.two.size h3)
theorem Pd_of {b : Nat} {m : Bool × Bool} {r : Option Nat} {base n c n' c' : Nat} {A A' : Option Addr} {l L : List UInt8} {w w1 : World} (hp : Prn w b m (.slice A n c)) (ho : Own w base 5 (.slice A n c) (bv l)) (hr : r = (Value.slice A n c).ownBlock) (h : Sl w w1 r base A' n' c' L) :
    Prn w1 b m (.slice A n c) ∧ Pq b m r base L w (w1.setCell ⟨b, 9, none⟩ (.slice A' n' c')) A' n' c' := by
  have hne : some b ≠ r := fun e => own_ne hp ho (by rw [← hr]; exact e.symm)
  have hp1 : Prn w1 b m (.slice A n c) := hp.of_block (h.grown.block b hp.lt hne)
  refine ⟨hp1, hp1.set _, h.len, h.own.set (own_ne hp1 h.own), ⟨h.grown.os, h.grown.tape, h.grown.output, by simpa using h.grown.size, fun i hi h1 h2 => (Below.heap_setCell w1 ⟨b, 9, none⟩ _ i h2).trans (h.grown.block i hi h1)⟩, h.loc⟩
theorem print27 (b base n c : Nat) (m : Bool × Bool) (A : Option Addr) (l : List UInt8) (s : ByteArray) (w : World) (hn : l.length + s.size ≤ 1073741824) (hl : n = l.length) (hp : Prn w b m (.slice A n c)) (ho : Own w base 5 (.slice A n c) (bv l)) (hb : base ≤ w.heap.size) :
    Calls Tryf.prog 16 #[.pointer (some ⟨b, 0, none⟩), .string s] w (Pd b m (Value.slice A n c).ownBlock base (l ++ s.data.toList) w) := by
  have c9 := hp.cell
  have hbw := hp.lt
  obtain ⟨r, hr⟩ : ∃ r, r = (Value.slice A n c).ownBlock := ⟨_, rfl⟩
  have S0 : Hid (Sl w w r base A n c l) := Lib.hid (by rw [hr]; exact Sl.start ho hl)
  have HP := Lib.hid hp; have HO := Lib.hid ho; have HR := Lib.hid hr
  rw [← hr]
  clear hp ho hr hl
  go_enter Tryf.func16, Tryf.ntmps16
  go_wp2_with (at_builtin; refine wp_append_str _ rfl (.tmp 8) (.tmp 9) 25 9 5 rfl Tryf.underlying25 Tryf.underlying9 infoB (.slice A n c) l base rfl S0.out.own s rfl (by omega) hb ?_; intro v1 w1 o1 g1 loc1; obtain ⟨A2, n2, c2, rfl, S2⟩ := S0.out.nextStr g1 o1 loc1; obtain ⟨hp1, hd⟩ := Pd_of HP.out HO.out HR.out S2; have d9 := hp1.cell; have f9 := hp1.free; have hz1 := hp1.lt; have HD := Lib.hid hd; clear S2 hp1 hd o1 g1 loc1)
  go_end0
  exact ⟨rfl, _, _, _, HD.out⟩
end Go.Proofs.YtpoakndmajoiaaaFmt.Prq
