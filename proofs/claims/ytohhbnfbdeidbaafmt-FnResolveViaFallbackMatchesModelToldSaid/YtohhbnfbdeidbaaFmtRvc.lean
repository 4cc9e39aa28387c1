/- The manifest of the law on the fallback as its loops fill it: what the two maps answer, by the last entry of a name. No condition. -/
import Derived.Test.YtohhbnfbdeidbaaFmtRva
namespace Go.Proofs.YtohhbnfbdeidbaaFmt.Rvc
open Go.RowKit Go.Maps Go.Proofs.YtohhbnfbdeidbaaFmt.Base Go.Proofs.YtohhbnfbdeidbaaFmt.Mps Go.Proofs.YtohhbnfbdeidbaaFmt.Pnp Go.Proofs.YtohhbnfbdeidbaaFmt.Sls Go.Proofs.YtohhbnfbdeidbaaFmt.Rva
set_option linter.unusedVariables false
/-- The last place before k at which q stands. -/
def lastAt (l : List ByteArray) (q : ByteArray) : Nat → Option Nat
  | 0 => none
  | k + 1 => if l[k]? = some q then some k else lastAt l q k
theorem lastAt_hit {l : List ByteArray} {q : ByteArray} {k : Nat} (h : l[k]? = some q) : lastAt l q (k + 1) = some k := by simp [lastAt, h]
theorem lastAt_pass {l : List ByteArray} {q u : ByteArray} {k : Nat} (h : l[k]? = some u) (hne : u ≠ q) : lastAt l q (k + 1) = lastAt l q k := by
  simp only [lastAt, h]
  rw [if_neg (fun e => hne (Option.some.inj e))]
/-- What the map answers when k entries have been put. -/
def put (ln li lr : List ByteArray) (k : Nat) (x : ByteArray) : Option Value := (lastAt ln x k).map fun j => ref (li.getD j e0) (lr.getD j e0)
theorem put_zero (ln li lr : List ByteArray) : put ln li lr 0 = fun _ => none := rfl
theorem put_step (ln li lr : List ByteArray) (k : Nat) (n i r : ByteArray) (hn : ln[k]? = some n) (hi : li[k]? = some i) (hr : lr[k]? = some r) : upd (put ln li lr k) n (ref i r) = put ln li lr (k + 1) := by
  funext x
  unfold upd put
  by_cases hx : x = n
  · subst hx
    rw [if_pos rfl, lastAt_hit hn]
    simp [List.getD, hi, hr]
  · rw [if_neg hx, lastAt_pass hn (fun e => hx e.symm)]
theorem put_hit (ln li lr : List ByteArray) (k j : Nat) (q i r : ByteArray) (h : lastAt ln q k = some j) (hi : li[j]? = some i) (hr : lr[j]? = some r) : put ln li lr k q = some (ref i r) := by
  unfold put
  rw [h]
  simp [List.getD, hi, hr]
theorem put_miss (ln li lr : List ByteArray) (k : Nat) (q : ByteArray) (h : lastAt ln q k = none) : put ln li lr k q = none := by
  unfold put
  rw [h]; rfl
/-- The manifest in w: all its blocks from B on; one package at (the empty name, r), n1 entries put into its map, n2 into the pool. -/
structure Two (w : World) (B b M Q I D : Nat) (r loc : ByteArray) (n1 n2 : Nat) (h p : ByteArray → Option Value) : Prop where
  man : Man w b M Q
  reg : MI w M 1 (upd (fun _ => none) e0 (.map (some I)))
  inn : MI w I 1 (upd (fun _ => none) r (pkg (some D) loc))
  dep : MI w D n1 h
  pool : MI w Q n2 p
  o0 : B ≤ M
  o1 : M < Q
  o2 : Q < b
  o3 : b < I
  o4 : I < D
section
variable {w w' : World} {B b M Q I D : Nat} {r loc : ByteArray} {n1 n2 n : Nat} {h p h' p' : ByteArray → Option Value}
theorem Two.dep' (t : Two w B b M Q I D r loc n1 n2 h p) (hd : MI w' D n h') (g : w.grownBy w' (some D)) : Two w' B b M Q I D r loc n n2 h' p := by
  obtain ⟨a1, a2, a3, a4, a5, o0, o1, o2, o3, o4⟩ := t
  exact ⟨a1.kept g (by simp; omega), a2.kept g (by simp; omega), a3.kept g (by simp; omega), hd, a5.kept g (by simp; omega), o0, o1, o2, o3, o4⟩
theorem Two.pool' (t : Two w B b M Q I D r loc n1 n2 h p) (hd : MI w' Q n p') (g : w.grownBy w' (some Q)) : Two w' B b M Q I D r loc n1 n h p' := by
  obtain ⟨a1, a2, a3, a4, a5, o0, o1, o2, o3, o4⟩ := t
  exact ⟨a1.kept g (by simp; omega), a2.kept g (by simp; omega), a3.kept g (by simp; omega), a4.kept g (by simp; omega), hd, o0, o1, o2, o3, o4⟩
theorem Two.later (t : Two w B b M Q I D r loc n1 n2 h p) (hB : Below w.heap.size w w') : Two w' B b M Q I D r loc n1 n2 h p := by
  obtain ⟨a1, a2, a3, a4, a5, o0, o1, o2, o3, o4⟩ := t
  exact ⟨a1.below hB a1.lt, a2.below hB a2.lt, a3.below hB a3.lt, a4.below hB a4.lt, a5.below hB a5.lt, o0, o1, o2, o3, o4⟩
theorem Two.drewN (t : Two w B b M Q I D r loc n1 n2 h p) (k : Nat) : Two (w.drewN k) B b M Q I D r loc n1 n2 h p := by
  obtain ⟨a1, a2, a3, a4, a5, o0, o1, o2, o3, o4⟩ := t
  exact ⟨a1.of_block rfl, a2.drewN k, a3.drewN k, a4.drewN k, a5.drewN k, o0, o1, o2, o3, o4⟩
end
theorem grown_below {w w' : World} {row B : Nat} (h : w.grownBy w' (some row)) (hB : B ≤ w.heap.size) (hr : B ≤ row) : Below B w w' :=
  ⟨h.os, h.tape, h.output, h.size, fun i hi => h.block i (by omega) (by simp; omega)⟩
section
variable {w : World} {B b M Q I D : Nat} {r loc : ByteArray} {n1 n2 : Nat} {h p : ByteArray → Option Value}
theorem Two.putDep (t : Two w B b M Q I D r loc n1 n2 h p) (n di dr : ByteArray) (hn : n1 ≤ 4194304) (hr : r.size ≤ maxLen) (hnm : n.size ≤ maxLen) (hB : B ≤ w.heap.size) :
    Calls Tryf.prog 16 #[.pointer (some ⟨b, 0, none⟩), .string { data := #[] }, .string r, .string n, .string di, .string dr] w fun e w' => e = .returned (.tuple #[]) ∧ Two w' B b M Q I D r loc (n1 + 1) n2 (upd h n (ref di dr)) p ∧ Below B w w' := by
  refine (dep16 b M Q I D 1 1 n1 _ _ h e0 r loc n di dr w t.man t.reg (by simp [upd]) t.inn (by simp [upd]) t.dep hn (by unfold maxLen; decide) hr hnm).mono ?_
  rintro e w' ⟨rfl, h1, g⟩
  exact ⟨rfl, t.dep' h1 g, grown_below g hB (by have := t.o0; have := t.o1; have := t.o2; have := t.o3; have := t.o4; omega)⟩
theorem Two.putPool (t : Two w B b M Q I D r loc n1 n2 h p) (n di dr : ByteArray) (hn : n2 ≤ 4194304) (hnm : n.size ≤ maxLen) (hB : B ≤ w.heap.size) :
    Calls Tryf.prog 17 #[.pointer (some ⟨b, 0, none⟩), .string n, .string di, .string dr] w fun e w' => e = .returned (.tuple #[]) ∧ Two w' B b M Q I D r loc n1 (n2 + 1) h (upd p n (ref di dr)) ∧ Below B w w' := by
  refine (pool17 b M Q n2 p n di dr w t.man t.pool hn hnm).mono ?_
  rintro e w' ⟨rfl, h1, g⟩
  exact ⟨rfl, t.pool' h1 g, grown_below g hB (by have := t.o0; have := t.o1; omega)⟩
theorem Two.hitDep (t : Two w B b M Q I D e0 loc n1 n2 h p) (q i r : ByteArray) (hd : h q = some (ref i r)) (hq : q.size ≤ maxLen) : Calls Tryf.prog 18 #[.pointer (some ⟨b, 0, none⟩), .string q] w (Rs i r true w) :=
  res18 b q i r true w (dep20 b M Q I D 1 1 n1 _ _ h q i r loc w t.man t.reg (by simp [upd]) t.inn (by simp [upd]) t.dep hd hq)
theorem Two.hitPool (t : Two w B b M Q I D e0 loc n1 n2 h p) (q i r : ByteArray) (hd : h q = none) (hp : p q = some (ref i r)) (hq : q.size ≤ maxLen) : Calls Tryf.prog 18 #[.pointer (some ⟨b, 0, none⟩), .string q] w (Rs i r true w) :=
  res18 b q i r true w (pool20 b M Q I D 1 1 n1 n2 _ _ h p q i r loc w t.man t.reg (by simp [upd]) t.inn (by simp [upd]) t.dep hd t.pool hp hq)
theorem Two.noOne (t : Two w B b M Q I D e0 loc n1 n2 h p) (q : ByteArray) (hd : h q = none) (hp : p q = none) (hq : q.size ≤ maxLen) : Calls Tryf.prog 18 #[.pointer (some ⟨b, 0, none⟩), .string q] w (Rs e0 e0 false w) :=
  res18 b q e0 e0 false w (none20 b M Q I D 1 1 n1 n2 _ _ h p q loc w t.man t.reg (by simp [upd]) t.inn (by simp [upd]) t.dep hd t.pool hp hq)
theorem Two.noTop (t : Two w B b M Q I D r loc n1 n2 h p) (q : ByteArray) (hr : e0 ≠ r) : Calls Tryf.prog 18 #[.pointer (some ⟨b, 0, none⟩), .string q] w (Rs e0 e0 false w) :=
  res18 b q e0 e0 false w (miss20 b M Q I 1 1 _ _ q w t.man t.reg (by simp [upd]) t.inn (by simp [upd, hr]))
end
end Go.Proofs.YtohhbnfbdeidbaaFmt.Rvc
