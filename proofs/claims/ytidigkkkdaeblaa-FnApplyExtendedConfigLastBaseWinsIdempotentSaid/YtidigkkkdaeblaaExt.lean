/- applyExtendedConfig by its contract: each field that the base sets wins, all others stay. No condition. -/
import Derived.Test.YtidigkkkdaeblaaCfg
import Derived.StillTailTactics
import Derived.Deep.RegionWith
namespace Go.Proofs.Ytidigkkkdaeblaa.Ext
open Go.ChangeShapes Go.WideShapes Go.ChangeAt Go.RowKit Go.Deep Go.Proofs.Ytidigkkkdaeblaa.Base Go.Proofs.Ytidigkkkdaeblaa.Cfg
set_option linter.unusedVariables false
def F (s f l : ByteArray) (n : Int) (pU pP pS pA : Option Addr) (i : Nat) : Value := (cfg s f l n pU pP pS pA).getD i undef
/-- Nothing but block D has turned. -/
def But (D : Nat) (w w' : World) : Prop := w'.os = w.os ∧ w'.tape = w.tape ∧ w'.output = w.output ∧ w.heap.size ≤ w'.heap.size ∧ ∀ b, b ≠ D → b < w.heap.size → w'.heap[b]? = w.heap[b]?
theorem But.refl (D : Nat) (w : World) : But D w w := ⟨rfl, rfl, rfl, Nat.le_refl _, fun _ _ _ => rfl⟩
theorem But.trans {D : Nat} {a b c : World} (h : But D a b) (h2 : But D b c) : But D a c :=
  ⟨h2.1.trans h.1, h2.2.1.trans h.2.1, h2.2.2.1.trans h.2.2.1, Nat.le_trans h.2.2.2.1 h2.2.2.2.1, fun x hx hlt => (h2.2.2.2.2 x hx (Nat.lt_of_lt_of_le hlt h.2.2.2.1)).trans (h.2.2.2.2 x hx hlt)⟩
theorem But.of_below {D : Nat} {a b : World} (h : Below a.heap.size a b) : But D a b := ⟨h.os, h.tape, h.output, h.size, fun x _ hlt => h.block x hlt⟩
theorem But.set (D i : Nat) (w : World) (v : Value) : But D w (w.setCell ⟨D, i, none⟩ v) := by
  have h := (Below.refl 0 w).setCell (p := ⟨D, i, none⟩) (Nat.zero_le _) v
  exact ⟨h.os, h.tape, h.output, h.size, fun x hx _ => blk_setCell_other _ _ _ _ hx⟩
theorem But.below {D B : Nat} {a b c : World} (h0 : Below B a b) (hB : B ≤ D) (h : But D b c) (hz : B ≤ b.heap.size) : Below B a c :=
  ⟨h.1.trans h0.os, h.2.1.trans h0.tape, h.2.2.1.trans h0.output, Nat.le_trans h0.size h.2.2.2.1, fun k hk => (h.2.2.2.2 k (by omega) (by omega)).trans (h0.block k hk)⟩
theorem jsx_any (D : Nat) (w : World) :
    Calls Try.prog 12 #[.pointer (some ⟨D, 19, none⟩), .agg #[.slice none 0 0, .slice none 0 0, .pointer none, .int .u8 0]] w fun e w' => e = .returned (.tuple #[]) ∧ Below w.heap.size w w' := by
  go_enter Try.func12, Try.ntmps12
  go_wp2
  go_returns
  exact ⟨rfl, by go_grown⟩
theorem settings_any (D : Nat) (w : World) :
    Calls Try.prog 13 #[.pointer (some ⟨D, 23, none⟩), .agg #[.int .u8 0, .int .u8 0, .int .u8 0, .int .u8 0, .int .u8 0, .int .u8 0]] w fun e w' => e = .returned (.tuple #[]) ∧ Below w.heap.size w w' := by
  go_enter Try.func13, Try.ntmps13
  go_wp2
  go_returns
  exact ⟨rfl, by go_grown⟩
theorem But.drew {D : Nat} {a b : World} (h : But D a b) : But D a b.drew := h
theorem new_cell {W : World} {c : Array Value} {t i : Nat} {v : Value} (b : Nat) (hb : b = W.heap.size) (hc : c[i]? = some v) : (W.alloc (.cells c t)).drew.cell? ⟨b, i, none⟩ = some v := by
  subst hb
  have := World.rowIs_alloc W c t (fun j => c.getD j undef) (fun j hj => by simp [Array.getD, hj])
  have hi : i < c.size := (Array.getElem?_eq_some_iff.1 hc).1
  show (W.alloc (.cells c t)).cell? _ = _
  rw [this.cell hi]; simp [Array.getD, hi]; exact (Array.getElem?_eq_some_iff.1 hc).2
theorem row_keep {w w' : World} {b t n : Nat} {f : Nat → Value} (h : w.rowIs b t n f) (hb : Below w.heap.size w w') : w'.rowIs b t n f := h.of_block (hb.block b h.lt)
end Go.Proofs.Ytidigkkkdaeblaa.Ext
