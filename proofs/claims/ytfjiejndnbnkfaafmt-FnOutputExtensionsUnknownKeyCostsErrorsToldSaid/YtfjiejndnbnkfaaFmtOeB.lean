/- The state of validateOutputExtensions' loop: the range, the log, the frame of what stands. No condition. -/
import Derived.Test.YtfjiejndnbnkfaaFmtOeA
namespace Go.Proofs.YtfjiejndnbnkfaaFmt.OeB
open Go.RowKit Go.Deep Go.Maps Go.ChangeMaps Go.MapKept Go.Proofs.YtfjiejndnbnkfaaFmt.Base Go.Proofs.YtfjiejndnbnkfaaFmt.Sls Go.Proofs.YtfjiejndnbnkfaaFmt.Mps Go.Proofs.YtfjiejndnbnkfaaFmt.Wsum Go.Proofs.YtfjiejndnbnkfaaFmt.Lk Go.Proofs.YtfjiejndnbnkfaaFmt.Lm Go.Proofs.YtfjiejndnbnkfaaFmt.Ln Go.Proofs.YtfjiejndnbnkfaaFmt.OeA
set_option linter.unusedVariables false
/-- Where the blocks lie. -/
structure Geo (K M E S base b R : Nat) (w : World) : Prop where
  bb : b < base
  bk : b ≠ K
  bm : b ≠ M
  be : b ≠ E
  bs : b ≠ S
  kb : K < base
  mb : M < base
  eb : E < base
  sb : S < base
  bw : base ≤ w.heap.size
  rw : w.heap.size < R
structure Sx (K M E S : Nat) (lvl : Int) (base b n R : Nat) (D : DataW Value) (left : Lit → Bool) (cnt : Nat) (eb : Bool) (v : Value) (ms : List Ms) (w wr : World) : Prop where
  rg : wr.ranges Tryf.prog 9 self b R n D left cnt
  lg : Lg wr K M E S 1 eb base v ms
  own : ∀ q, q ≤ w.heap.size ∨ q = R → v.ownBlock ≠ some q
  bx : wr.heap[w.heap.size]? = some (.cells #[.func (Fn.func 15) #[] #[.pointer (some ⟨K, 0, none⟩), .pointer (some ⟨M, 0, none⟩), .pointer (some ⟨E, 0, none⟩), .pointer (some ⟨S, 0, none⟩)], .func (Fn.func 18) #[] #[.pointer (some ⟨M, 0, none⟩), .pointer (some ⟨E, 0, none⟩)], .func (Fn.func 19) #[] #[.pointer (some ⟨M, 0, none⟩), .pointer (some ⟨S, 0, none⟩)], .func (Fn.func 20) #[] #[.pointer (some ⟨M, 0, none⟩), .pointer (some ⟨S, 0, none⟩)], .int .i8 lvl, .map none] 37 (0, 0))
  bel : ∀ B, B ≤ M → B ≤ S → B ≤ E → B ≤ base → Below B w wr
  far : ∀ q, q ≠ M → q ≠ S → q ≠ E → q < w.heap.size → wr.heap[q]? = w.heap[q]?
section
variable {K M E S base b n R : Nat} {lvl : Int} {D : DataW Value} {left : Lit → Bool} {cnt : Nat} {eb : Bool} {v : Value} {ms : List Ms} {w wr : World}
theorem Sx.size (h : Sx K M E S lvl base b n R D left cnt eb v ms w wr) (g : Geo K M E S base b R w) : w.heap.size < wr.heap.size ∧ R < wr.heap.size ∧ b < wr.heap.size := by
  refine ⟨(Array.getElem?_eq_some_iff.1 h.bx).1, h.rg.lt, ?_⟩
  have := (Array.getElem?_eq_some_iff.1 h.bx).1
  have := g.bb; have := g.bw; omega
/-- The next entry. -/
theorem Sx.step (h : Sx K M E S lvl base b n R D left cnt eb v ms w wr) (g : Geo K M E S base b R w) {w1 : World} {left' : Lit → Bool} {cnt' : Nat} (hr : w1.ranges Tryf.prog 9 self b R n D left' cnt') (hg : wr.grownBy w1 (some R)) : Sx K M E S lvl base b n R D left' cnt' eb v ms w w1 := by
  obtain ⟨z1, z2, z3⟩ := h.size g
  have g1 := g.bb; have g2 := g.kb; have g3 := g.mb; have g4 := g.eb; have g5 := g.sb; have g6 := g.bw; have g7 := g.rw
  have k1 : ∀ q, q ≠ R → q < wr.heap.size → w1.heap[q]? = wr.heap[q]? := fun q hq hlt => hg.block q hlt (fun e => hq (Option.some.inj e))
  refine ⟨hr, h.lg.kept hg.size (fun q hq => k1 q ?_ ?_), h.own, (k1 _ (by omega) z1).trans h.bx, fun B a1 a2 a3 a4 => (h.bel B a1 a2 a3 a4).grown hg (by omega) (fun j hj => by cases hj; omega), fun q a1 a2 a3 a4 => (k1 q (by omega) (by omega)).trans (h.far q a1 a2 a3 a4)⟩
  · rcases hq with rfl | rfl | rfl | rfl | hq
    · omega
    · omega
    · omega
    · omega
    · intro e; subst e; exact h.own _ (.inr rfl) hq
  · rcases hq with rfl | rfl | rfl | rfl | hq
    · omega
    · omega
    · omega
    · omega
    · exact (h.lg.row.lt q hq).2
/-- One message more. -/
theorem Sx.add (h : Sx K M E S lvl base b n R D left cnt eb v ms w wr) (g : Geo K M E S base b R w) {wa w8 : World} {eb' : Bool} {v8 : Value} {ms' : List Ms} (hz : wr.heap.size ≤ wa.heap.size) (he : ∀ q, q < wr.heap.size → wa.heap[q]? = wr.heap[q]?) (hB : ∀ B, B ≤ base → Below B wr wa)
    (hg : Lg w8 K M E S 1 eb' base v8 ms') (hn : ∀ q, q < wa.heap.size → v.ownBlock ≠ some q → v8.ownBlock ≠ some q) (far : ∀ q, q ≠ M → q ≠ S → q ≠ E → v.ownBlock ≠ some q → q < wa.heap.size → w8.heap[q]? = wa.heap[q]?) (bel : ∀ B, B ≤ M → B ≤ S → B ≤ E → B ≤ base → Below B wa w8) :
    Sx K M E S lvl base b n R D left cnt eb' v8 ms' w w8 := by
  obtain ⟨z1, z2, z3⟩ := h.size g
  have g1 := g.bb; have g2 := g.kb; have g3 := g.mb; have g4 := g.eb; have g5 := g.sb; have g6 := g.bw; have g7 := g.rw
  have b1 := g.bm; have b2 := g.be; have b3 := g.bs
  have o1 := h.own _ (.inl (Nat.le_refl _)); have o2 := h.own _ (.inr rfl); have o3 := h.own b (.inl (by omega))
  have k1 : ∀ q, q ≠ M → q ≠ S → q ≠ E → v.ownBlock ≠ some q → q < wr.heap.size → w8.heap[q]? = wr.heap[q]? := fun q a1 a2 a3 a4 a5 => (far q a1 a2 a3 a4 (by omega)).trans (he q a5)
  refine ⟨rg_to h.rg (k1 b b1 b3 b2 o3 z3) (k1 R (by omega) (by omega) (by omega) o2 z2), hg, fun q hq => hn q ?_ (h.own q hq), (k1 _ (by omega) (by omega) (by omega) o1 z1).trans h.bx, fun B a1 a2 a3 a4 => (h.bel B a1 a2 a3 a4).trans ((hB B a4).trans (bel B a1 a2 a3 a4)), fun q a1 a2 a3 a4 => (k1 q a1 a2 a3 ?_ (by omega)).trans (h.far q a1 a2 a3 a4)⟩
  · rcases hq with hq | rfl <;> omega
  · exact h.own q (.inl (by omega))
end
end Go.Proofs.YtfjiejndnbnkfaaFmt.OeB
