/- Maps with string keys whose elements are read as themselves: what such a map answers, as a function of the key. Any program. No condition. -/
import Derived.Test.YtfjiejndnbnkfaaFmtBase
import Derived.WalkKit
import Derived.Below
import Derived.Maps.OwnSet
import Derived.StringKeys
namespace Go.Proofs.YtfjiejndnbnkfaaFmt.Mps
open Go.RowKit Go.Maps Go.ChangeMaps Go.MapKept Go.Proofs.YtfjiejndnbnkfaaFmt.Base
set_option linter.unusedVariables false
/-- An element reads as itself. -/
def self (v : Value) : Option (DataW Value × List MemPlace) := some (.held v, [])
def kl (s : ByteArray) : Lit := .string s.data.toList
theorem kl_inj {s t : ByteArray} (h : kl s = kl t) : s = t := by
  unfold kl at h
  injection h with h
  exact ext_list h
theorem kl_key (s : ByteArray) : WideAt.IsKeyLit (kl s) := trivial
/-- Block b is a map of at most n entries that holds f s at the key s. -/
def MapIs (P : Program) (k : TypeId) (w : World) (b n : Nat) (f : ByteArray → Option Value) : Prop :=
  ∃ D : DataW Value, w.ownsMap P k self b n D ∧ ∀ s : ByteArray, match f s with | some v => ∀ z, D.atKey (kl s) z = .held v | none => Maps.has D (kl s) = false
section
variable {P : Program} {k t e : TypeId} {w w' : World} {b n : Nat} {f : ByteArray → Option Value}
theorem MapIs.lt (h : MapIs P k w b n f) : b < w.heap.size := by
  obtain ⟨D, h, _⟩ := h
  exact h.lt
theorem MapIs.mono (h : MapIs P k w b n f) {n' : Nat} (hn : n ≤ n') : MapIs P k w b n' f := by
  obtain ⟨D, h, hf⟩ := h
  exact ⟨D, h.mono hn, hf⟩
theorem MapIs.made (P : Program) (k : TypeId) (w : World) : MapIs P k (w.alloc (.map #[] 0)) w.heap.size 0 (fun _ => none) :=
  ⟨_, World.ownsMap_made w P k self, fun _ => rfl⟩
theorem MapIs.of_block {o : Option Obj} (h : MapIs P k w b n f) (hb : w'.heap[b]? = w.heap[b]?) : MapIs P k w' b n f := by
  obtain ⟨D, ⟨es, clock, h1, h2⟩, hf⟩ := h
  exact ⟨D, ⟨es, clock, hb.trans h1, h2⟩, hf⟩
theorem MapIs.kept {row : Option Nat} (h : MapIs P k w b n f) (hg : w.grownBy w' row) (hne : some b ≠ row) : MapIs P k w' b n f := by
  obtain ⟨D, h, hf⟩ := h
  exact ⟨D, h.kept hg hne, hf⟩
theorem MapIs.alloc (h : MapIs P k w b n f) (o : Obj) : MapIs P k (w.alloc o) b n f := by
  obtain ⟨D, h, hf⟩ := h
  exact ⟨D, h.alloc o, hf⟩
theorem MapIs.drewN (h : MapIs P k w b n f) (m : Nat) : MapIs P k (w.drewN m) b n f := by
  obtain ⟨D, ⟨es, clock, h1, h2⟩, hf⟩ := h
  exact ⟨D, ⟨es, clock, h1, h2⟩, hf⟩
theorem MapIs.drew (h : MapIs P k w b n f) : MapIs P k w.drew b n f := by
  obtain ⟨D, ⟨es, clock, h1, h2⟩, hf⟩ := h
  exact ⟨D, ⟨es, clock, h1, h2⟩, hf⟩
theorem MapIs.setCell (h : MapIs P k w b n f) {a : Addr} (ha : b ≠ a.block) (u : Value) : MapIs P k (w.setCell a u) b n f := by
  obtain ⟨D, h, hf⟩ := h
  exact ⟨D, h.setCell ha u, hf⟩
theorem MapIs.below {B : Nat} (h : MapIs P k w b n f) (hB : Below B w w') (hb : b < B) : MapIs P k w' b n f := h.of_block (o := none) (hB.block b hb)
/-- 'v, ok := m[s]'. -/
theorem MapIs.look (h : MapIs P k w b n f) (hk : P.underlying k = some .string) (ht : P.underlying t = some (.map k e)) {z : Value} (hz : (zeroValue e).run P w = .ok z w) (s : ByteArray) (hs : s.size ≤ maxLen) :
    (Instr.lookup t (.map (some b)) (.string s) true).run P w = .ok (.tuple #[(f s).getD z, .bool (f s).isSome]) w := by
  obtain ⟨D, h, hf⟩ := h
  obtain ⟨v, ps, hrun, hv⟩ := h.look_ok (string_keyed hk) ht hz (zd := .held z) (zp := []) rfl (WideMaps.keyOf_string_mk hk hs)
  rw [hrun]
  have := hf s
  unfold self at hv
  injection hv with hv
  injection hv with hv _
  cases hfs : f s with
  | some u =>
    rw [hfs] at this
    have h1 := this (.held z)
    unfold kl at h1
    rw [h1] at hv
    injection hv with hv
    subst hv
    have h2 : Maps.has D (.string s.data.toList) = true := has_true_of_atKey this
    rw [h2]; rfl
  | none =>
    rw [hfs] at this
    have h1 := atKey_of_not_has this (.held z)
    unfold kl at h1
    rw [h1] at hv
    injection hv with hv
    subst hv
    have h2 : Maps.has D (.string s.data.toList) = false := this
    rw [h2]; rfl
/-- 'm[s]'. -/
theorem MapIs.look1 (h : MapIs P k w b n f) (hk : P.underlying k = some .string) (ht : P.underlying t = some (.map k e)) {z : Value} (hz : (zeroValue e).run P w = .ok z w) (s : ByteArray) (hs : s.size ≤ maxLen) :
    (Instr.lookup t (.map (some b)) (.string s) false).run P w = .ok ((f s).getD z) w := by
  obtain ⟨D, h, hf⟩ := h
  obtain ⟨v, ps, hrun, hv⟩ := h.lookup (string_keyed hk) ht hz (zd := .held z) (zp := []) rfl (WideMaps.keyOf_string_mk hk hs)
  rw [hrun]
  have := hf s
  unfold self at hv
  injection hv with hv
  injection hv with hv _
  cases hfs : f s with
  | some u =>
    rw [hfs] at this
    have h1 := this (.held z)
    unfold kl at h1
    rw [h1] at hv
    injection hv with hv
    subst hv
    rfl
  | none =>
    rw [hfs] at this
    have h1 := atKey_of_not_has this (.held z)
    unfold kl at h1
    rw [h1] at hv
    injection hv with hv
    subst hv
    rfl
/-- What the map holds behind 'm[s] = v'. -/
def upd (f : ByteArray → Option Value) (s : ByteArray) (v : Value) (x : ByteArray) : Option Value := if x = s then some v else f x
/-- 'm[s] = v'. -/
theorem MapIs.store (h : MapIs P k w b n f) (hk : P.underlying k = some .string) (ht : P.underlying t = some (.map k e)) (hn : n < maxLen) (s : ByteArray) (hs : s.size ≤ maxLen) (v : Value) :
    ∃ w', (Instr.mapUpdate t (.map (some b)) (.string s) v).run P w = .ok () w' ∧ MapIs P k w' b (n + 1) (upd f s v) ∧ w.grownBy w' (some b) := by
  obtain ⟨D, h, hf⟩ := h
  obtain ⟨w', hrun, h', hg⟩ := h.update (string_keyed hk) ht hn (WideMaps.keyOf_string_mk hk hs) (val := v) (d := .held v) (ps := []) rfl
  refine ⟨w', hrun, ⟨_, h', fun x => ?_⟩, hg⟩
  unfold upd
  by_cases hx : x = s
  · subst hx
    rw [if_pos rfl]
    exact fun z => atKey_put_same h.isMap (kl_key x) _ z
  · rw [if_neg hx]
    have hne : kl x ≠ kl s := fun h => hx (kl_inj h)
    have := hf x
    cases hfx : f x with
    | some u =>
      rw [hfx] at this
      exact fun z => (atKey_put_other hne _ z).trans (this z)
    | none =>
      rw [hfx] at this
      exact (has_put_other hne _).trans this
/-- 'len(m)' of an empty map. -/
theorem MapIs.len0 (h : MapIs P k w b 0 f) (ht : P.underlying t = some (.map k e)) (ty : TypeId) : (Builtin.len_ #[t] ty #[.map (some b)]).run P w = .ok (.int .i64 0) w := by
  obtain ⟨D, h, hf⟩ := h
  rw [h.len ht ty]
  have := h.size_le
  have e : Maps.size D = 0 := by omega
  rw [e]; rfl
/-- 'm[s] = v' at the operation. -/
theorem wp_store (w : World) {ops : Array Oper} {rest : List Oper} {o : Oper} {a : Act} {Q : Exit → Act → World → Prop}
    (hg : o.guard = none) (m x v : Operand) (t : TypeId) (hop : o.op = Op.mapUpdate t m x v) (hk : P.underlying k = some .string) (ht : P.underlying t = some (.map k e))
    (b n : Nat) (f : ByteArray → Option Value) (hm : a.eval m = .map (some b)) (h : MapIs P k w b n f) (hn : n < maxLen) (s : ByteArray) (hx : a.eval x = .string s) (hs : s.size ≤ maxLen) (val : Value) (hv : a.eval v = val)
    (hK : ∀ w', MapIs P k w' b (n + 1) (upd f s val) → w.grownBy w' (some b) → wpList P ops Q rest (a.put o.dst undef) w') :
    wpList P ops Q (o :: rest) a w := by
  refine wpList_plain hg fun K' hK' => ?_
  obtain ⟨w', hrun, r1, r2⟩ := h.store hk ht hn s hs val
  unfold Oper.wp
  simp [execOp, hop, hm, hx, hv, hrun, Result.andThen]
  exact hK' _ _ (hK w' r1 r2)
/-- 'v, ok := m[s]' at the operation. -/
theorem wp_look (w : World) {ops : Array Oper} {rest : List Oper} {o : Oper} {a : Act} {Q : Exit → Act → World → Prop}
    (hg : o.guard = none) (m x : Operand) (t : TypeId) (hop : o.op = Op.lookup t m x true) (hk : P.underlying k = some .string) (ht : P.underlying t = some (.map k e)) (z : Value) (hz : (zeroValue e).run P w = .ok z w)
    (b n : Nat) (f : ByteArray → Option Value) (hm : a.eval m = .map (some b)) (h : MapIs P k w b n f) (s : ByteArray) (hx : a.eval x = .string s) (hs : s.size ≤ maxLen)
    (hK : wpList P ops Q rest (a.put o.dst (.tuple #[(f s).getD z, .bool (f s).isSome])) w) :
    wpList P ops Q (o :: rest) a w := by
  refine wpList_plain hg fun K' hK' => ?_
  have hrun := h.look hk ht hz s hs
  unfold Oper.wp
  simp [execOp, hop, hm, hx, hrun, Result.andThen]
  exact hK' _ _ hK
theorem wp_hit (w : World) {ops : Array Oper} {rest : List Oper} {o : Oper} {a : Act} {Q : Exit → Act → World → Prop}
    (hg : o.guard = none) (m x : Operand) (t : TypeId) (hop : o.op = Op.lookup t m x true) (hk : P.underlying k = some .string) (ht : P.underlying t = some (.map k e)) (z : Value) (hz : (zeroValue e).run P w = .ok z w)
    (b n : Nat) (f : ByteArray → Option Value) (hm : a.eval m = .map (some b)) (h : MapIs P k w b n f) (s : ByteArray) (hx : a.eval x = .string s) (hs : s.size ≤ maxLen) (v : Value) (hf : f s = some v)
    (hK : wpList P ops Q rest (a.put o.dst (.tuple #[v, .bool true])) w) :
    wpList P ops Q (o :: rest) a w := wp_look w hg m x t hop hk ht z hz b n f hm h s hx hs (by rw [hf]; exact hK)
theorem wp_miss (w : World) {ops : Array Oper} {rest : List Oper} {o : Oper} {a : Act} {Q : Exit → Act → World → Prop}
    (hg : o.guard = none) (m x : Operand) (t : TypeId) (hop : o.op = Op.lookup t m x true) (hk : P.underlying k = some .string) (ht : P.underlying t = some (.map k e)) (z : Value) (hz : (zeroValue e).run P w = .ok z w)
    (b n : Nat) (f : ByteArray → Option Value) (hm : a.eval m = .map (some b)) (h : MapIs P k w b n f) (s : ByteArray) (hx : a.eval x = .string s) (hs : s.size ≤ maxLen) (hf : f s = none)
    (hK : wpList P ops Q rest (a.put o.dst (.tuple #[z, .bool false])) w) :
    wpList P ops Q (o :: rest) a w := wp_look w hg m x t hop hk ht z hz b n f hm h s hx hs (by rw [hf]; exact hK)
/-- 'm[s]' at the operation, the key there. -/
theorem wp_hit1 (w : World) {ops : Array Oper} {rest : List Oper} {o : Oper} {a : Act} {Q : Exit → Act → World → Prop}
    (hg : o.guard = none) (m x : Operand) (t : TypeId) (hop : o.op = Op.lookup t m x false) (hk : P.underlying k = some .string) (ht : P.underlying t = some (.map k e)) (z : Value) (hz : (zeroValue e).run P w = .ok z w)
    (b n : Nat) (f : ByteArray → Option Value) (hm : a.eval m = .map (some b)) (h : MapIs P k w b n f) (s : ByteArray) (hx : a.eval x = .string s) (hs : s.size ≤ maxLen) (v : Value) (hf : f s = some v)
    (hK : wpList P ops Q rest (a.put o.dst v) w) :
    wpList P ops Q (o :: rest) a w := by
  refine wpList_plain hg fun K' hK' => ?_
  have hrun := h.look1 hk ht hz s hs
  rw [hf] at hrun
  unfold Oper.wp
  simp [execOp, hop, hm, hx, hrun, Result.andThen]
  exact hK' _ _ hK
end
end Go.Proofs.YtfjiejndnbnkfaaFmt.Mps
