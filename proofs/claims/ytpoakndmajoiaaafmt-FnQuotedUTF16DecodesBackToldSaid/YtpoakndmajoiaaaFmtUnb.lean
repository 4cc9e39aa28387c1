/- The state of printUnquotedUTF16's loop: the row that grows, the four scratch bytes. No condition. -/
import Derived.Test.YtpoakndmajoiaaaFmtPrq
import Derived.Test.YtpoakndmajoiaaaFmtEsq
import Derived.Test.YtpoakndmajoiaaaFmtEnc
import Derived.Deep.Upon
import Derived.Deep.MidRow
namespace Go.Proofs.YtpoakndmajoiaaaFmt.Unb
open Go.RowKit Go.Deep Go.Proofs.YtpoakndmajoiaaaFmt.Base Go.Proofs.YtpoakndmajoiaaaFmt.Sls Go.Proofs.YtpoakndmajoiaaaFmt.Byw Go.Proofs.YtpoakndmajoiaaaFmt.Prq Go.Proofs.YtpoakndmajoiaaaFmt.Esq Go.Proofs.YtpoakndmajoiaaaFmt.Enc
set_option linter.unusedVariables false
def uv (U : List Nat) : List Value := U.map fun (x : Nat) => Value.int .u16 (x : Int)
theorem uv_len (U : List Nat) : (uv U).length = U.length := by simp [uv]
theorem uv_at (U : List Nat) (k : Nat) (h : k < U.length) : (uv U)[k]? = some (.int .u16 ((U.getD k 0 : Nat) : Int)) := by
  simp [uv, h]
theorem tape_setCells (b : Nat) : ∀ (vs : List Value) (o : Nat) (w : World), (w.setCells b o vs).tape = w.tape
  | [], _, _ => rfl
  | v :: r, o, w => (tape_setCells b r (o + 1) _).trans rfl
theorem size_setCells' (b : Nat) : ∀ (vs : List Value) (o : Nat) (w : World), (w.setCells b o vs).heap.size = w.heap.size
  | [], _, _ => rfl
  | v :: r, o, w => (size_setCells' b r (o + 1) _).trans (by simp)
/-- The row of the call's own, and the four scratch bytes in block T. -/
structure St (w wr : World) (r : Option Nat) (base T : Nat) (A : Option Addr) (n c : Nat) (L : List UInt8) : Prop where
  sl : Sl w wr r base A n c L
  tmp : ∀ j, j < 4 → (wr.cell? ⟨T, j, none⟩).isSome = true ∧ wr.frozen? ⟨T, j, none⟩ = false
  lt : T < wr.heap.size
  ge : w.heap.size ≤ T
  ne : (Value.slice A n c).ownBlock ≠ some T
section
variable {w wr w1 : World} {r : Option Nat} {base T n c : Nat} {A : Option Addr} {L K : List UInt8} {v1 : Value} {o : Obj}
theorem St.str (h : St w wr r base T A n c L) (g1 : wr.grownBy w1 (Value.slice A n c).ownBlock) (o1 : Own w1 base 5 v1 (bv (L ++ K))) (loc : Byw.Loc wr (.slice A n c) v1) :
    ∃ A' n' c', v1 = .slice A' n' c' ∧ St w w1 r base T A' n' c' (L ++ K) := by
  obtain ⟨A', n', c', rfl, S⟩ := h.sl.nextStr g1 o1 loc
  have e := g1.block T h.lt (fun e => h.ne e.symm)
  refine ⟨A', n', c', rfl, S, fun j hj => ⟨?_, ?_⟩, Nat.lt_of_lt_of_le h.lt g1.size, h.ge, fun e2 => ?_⟩
  · rw [World.cell?_of_block e]; exact (h.tmp j hj).1
  · rw [World.frozen?_of_block e]; exact (h.tmp j hj).2
  · rcases loc T e2 with h1 | h1
    · exact h.ne h1
    · have := h.lt; omega
theorem St.byte (h : St w wr r base T A n c L) (g1 : (wr.alloc o).grownBy w1 (Value.slice A n c).ownBlock) (o1 : Own w1 base 5 v1 (bv L ++ bv K)) (hat : v1.ownBlock = (Value.slice A n c).ownBlock ∨ v1.ownBlock = some (wr.alloc o).heap.size) :
    ∃ A' n' c', v1 = .slice A' n' c' ∧ St w w1 r base T A' n' c' (L ++ K) := by
  obtain ⟨A', n', c', rfl, S⟩ := h.sl.next g1 o1 hat
  have e : w1.heap[T]? = wr.heap[T]? := (g1.block T (by have := h.lt; simp; omega) (fun e => h.ne e.symm)).trans (blk_alloc_lt wr o T h.lt)
  refine ⟨A', n', c', rfl, S, fun j hj => ⟨?_, ?_⟩, Nat.lt_of_lt_of_le h.lt (by have := g1.size; simp at this; omega), h.ge, fun e2 => ?_⟩
  · rw [World.cell?_of_block e]; exact (h.tmp j hj).1
  · rw [World.frozen?_of_block e]; exact (h.tmp j hj).2
  · rcases hat with h1 | h1
    · rw [h1] at e2; exact h.ne e2
    · rw [h1] at e2
      injection e2 with e2
      have := h.lt
      simp at e2
      omega
/-- Without a new block for what is appended. -/
theorem St.part (h : St w wr r base T A n c L) (g1 : wr.grownBy w1 (Value.slice A n c).ownBlock) (o1 : Own w1 base 5 v1 (bv L ++ bv K)) (hat : v1.ownBlock = (Value.slice A n c).ownBlock ∨ v1.ownBlock = some wr.heap.size) :
    ∃ A' n' c', v1 = .slice A' n' c' ∧ St w w1 r base T A' n' c' (L ++ K) := by
  rw [← bv_append] at o1
  refine h.str g1 o1 (fun g hg => ?_)
  rcases hat with h1 | h1
  · rw [h1] at hg; exact .inl hg
  · rw [h1] at hg; injection hg with hg; exact .inr (by omega)
/-- The scratch bytes written. -/
theorem St.enc (h : St w wr r base T A n c L) (vs : List Value) : St w (wr.setCells T 0 vs) r base T A n c L := by
  have hg := h.sl.grown
  have hb := h.ge
  refine ⟨⟨?_, h.sl.len, ⟨(World.os_setCells _ _ _ _).trans hg.os, (tape_setCells _ _ _ _).trans hg.tape, (World.output_setCells _ _ _ _).trans hg.output, by rw [size_setCells']; exact hg.size, fun i hi hne => (World.heap_setCells_other wr T 0 vs (Nat.lt_of_lt_of_le hi hg.size) (by omega)).trans (hg.block i hi hne)⟩, h.sl.loc⟩, fun j hj => ⟨World.isSome_setCells T vs 0 wr _ (h.tmp j hj).1, by rw [World.frozen?_setCells]; exact (h.tmp j hj).2⟩, by rw [size_setCells']; exact h.lt, h.ge, h.ne⟩
  exact h.sl.own.at' fun g hg => World.heap_setCells_other wr T 0 vs (h.sl.own.lt g hg).2 (fun e => h.ne (e ▸ hg))
end
theorem rune_cells (x : Int) : Lib.runeCells x = bv (rune8 x) := by
  unfold rune8 bv
  rw [Lib.runeCells, List.map_map]
  refine List.map_congr_left (fun y hy => ?_)
  have hy' : 0 ≤ y ∧ y ≤ 255 := by
    unfold Lib.encodeRuneZ at hy
    repeat' split at hy
    all_goals (simp at hy; omega)
  show Value.int .u8 y = .int .u8 ((UInt8.ofNat y.toNat).toNat : Int)
  rw [UInt8.toNat_ofNat_of_lt' (by show y.toNat < 256; omega)]
  rw [Int.toNat_of_nonneg hy'.1]
/-- Encode into the scratch bytes: they stand there, the rest as it was. -/
theorem enc_st {w wr : World} {r : Option Nat} {base T n c : Nat} {A : Option Addr} {L : List UInt8} (h : St w wr r base T A n c L) (x : Int) (hlo : -2147483648 ≤ x) (hhi : x ≤ 2147483647) :
    Calls Tryf.prog 20 #[.slice (some ⟨T, 0, none⟩) 4 4, .int .i32 x] wr fun e w' => e = .returned (.int .i64 (rune8 x).length) ∧ St w w' r base T A n c L ∧ Rd w' w'.heap.size (some ⟨T, 0, none⟩) (bv (rune8 x)) ∧ wr.heap.size ≤ w'.heap.size ∧ ∀ q, q < wr.heap.size → q ≠ T → w'.heap[q]? = wr.heap[q]? := by
  have e := rune_cells x
  have hlen : (Lib.runeCells x).length = (rune8 x).length := by rw [e, bv_len]
  have h4 := rune_len x
  refine (enc36 T 4 4 x hlo hhi wr (by omega) (fun j hj => by rw [Nat.zero_add]; exact (h.tmp j (by omega)).1) (fun j hj => by rw [Nat.zero_add]; exact (h.tmp j (by omega)).2)).mono ?_
  rintro e' w' ⟨rfl, rfl⟩
  refine ⟨by rw [hlen], h.enc _, fun h0 => ⟨⟨T, 0, none⟩, rfl, by rw [size_setCells']; exact h.lt, fun j u hu => ?_⟩, by rw [size_setCells']; exact Nat.le_refl _, fun q h1 h2 => World.heap_setCells_other wr T 0 _ h1 h2⟩
  have e1 : (⟨T, 0, none⟩ : Addr).add j = ⟨T, j, none⟩ := by unfold Addr.add; split <;> simp_all
  have hj : j < (bv (rune8 x)).length := (List.getElem?_eq_some_iff.1 hu).1
  rw [e1]
  have := World.cell?_setCells_in T (Lib.runeCells x) 0 wr (fun j hj => by rw [Nat.zero_add]; exact (h.tmp j (by omega)).1) j (by rw [e]; exact hj)
  rw [Nat.zero_add] at this
  rw [this, ← hu]
  rw [List.getElem?_eq_getElem hj]
  congr 1
  simp only [e]
end Go.Proofs.YtpoakndmajoiaaaFmt.Unb
