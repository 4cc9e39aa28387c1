/- A sum over the entries of a map as it is read; no program in it. -/
import Derived.Maps.Ext
import Derived.WalkKit
namespace Go.Proofs.YtfjiejndnbnkfaaFmt.Wsum
open Go.Maps Go.WideShapes
set_option linter.unusedVariables false
abbrev Ent := Lit × DataW Value
def sl (f : Lit → DataW Value → Nat) (left : Lit → Bool) : List Ent → Nat
  | [] => 0
  | p :: es => (if left p.1 then f p.1 p.2 else 0) + sl f left es
theorem sl_congr (f : Lit → DataW Value → Nat) (l1 l2 : Lit → Bool) : ∀ es : List Ent, (∀ p ∈ es, l1 p.1 = l2 p.1) → sl f l1 es = sl f l2 es
  | [], _ => rfl
  | p :: es, h => by
    show (if l1 p.1 then f p.1 p.2 else 0) + sl f l1 es = (if l2 p.1 then f p.1 p.2 else 0) + sl f l2 es
    rw [h p (by simp), sl_congr f l1 l2 es (fun q hq => h q (by simp [hq]))]
theorem sl_step (f : Lit → DataW Value → Nat) (left : Lit → Bool) : ∀ es : List Ent, es.Pairwise (fun p q => p.1 ≠ q.1) → (∀ p ∈ es, WideAt.IsKeyLit p.1) → ∀ p ∈ es, left p.1 = true → sl f left es = f p.1 p.2 + sl f (fun z => left z && !z.sameKey p.1) es
  | [], _, _, p, hp, _ => by cases hp
  | q :: es, hn, hk, p, hp, hl => by
    obtain ⟨n1, n2⟩ := List.pairwise_cons.1 hn
    show (if left q.1 then f q.1 q.2 else 0) + sl f left es = f p.1 p.2 + ((if left q.1 && !q.1.sameKey p.1 then f q.1 q.2 else 0) + sl f (fun z => left z && !z.sameKey p.1) es)
    rcases List.mem_cons.1 hp with rfl | hp'
    · have e1 : p.1.sameKey p.1 = true := WideAt.sameKey_self (hk p (by simp))
      rw [e1, hl, sl_congr f (fun z => left z && !z.sameKey p.1) left es (fun r hr => by
        have := sameKey_ne (n1 r hr).symm
        simp [this])]
      simp
    · have e1 : q.1.sameKey p.1 = false := sameKey_ne (n1 p hp')
      rw [e1, sl_step f left es n2 (fun r hr => hk r (by simp [hr])) p hp' hl]
      simp
      omega
theorem sl_insert (f : Lit → DataW Value → Nat) (left : Lit → Bool) (x : Ent) : ∀ es : List Ent, sl f left (DataW.insert x es) = (if left x.1 then f x.1 x.2 else 0) + sl f left es
  | [] => rfl
  | y :: r => by
    unfold DataW.insert
    split
    · rfl
    · show (if left y.1 then f y.1 y.2 else 0) + sl f left (DataW.insert x r) = (if left x.1 then f x.1 x.2 else 0) + ((if left y.1 then f y.1 y.2 else 0) + sl f left r)
      rw [sl_insert f left x r]; omega
theorem sl_none (f : Lit → DataW Value → Nat) (left : Lit → Bool) : ∀ es : List Ent, (∀ p ∈ es, left p.1 = false) → sl f left es = 0
  | [], _ => rfl
  | p :: es, h => by
    show (if left p.1 then f p.1 p.2 else 0) + sl f left es = 0
    rw [h p (by simp), sl_none f left es (fun q hq => h q (by simp [hq]))]; rfl
theorem sl_le (f : Lit → DataW Value → Nat) (left : Lit → Bool) (m : Nat) (hm : ∀ k d, f k d ≤ m) : ∀ es : List Ent, sl f left es ≤ m * es.length
  | [] => Nat.zero_le _
  | p :: es => by
    show (if left p.1 then f p.1 p.2 else 0) + sl f left es ≤ m * (es.length + 1)
    have := sl_le f left m hm es
    have := hm p.1 p.2
    have e : m * (es.length + 1) = m * es.length + m := by rw [Nat.mul_add]; simp
    split <;> omega
/-- The sum over the entries that are still to come. -/
def ws (f : Lit → DataW Value → Nat) (left : Lit → Bool) : DataW Value → Nat
  | .map es => sl f left es
  | _ => 0
def wt (f : Lit → DataW Value → Nat) (D : DataW Value) : Nat := ws f (fun _ => true) D
theorem ws_start {f : Lit → DataW Value → Nat} {D : DataW Value} (c : Canon D) : ws f (Maps.has D) D = wt f D := by
  obtain ⟨es, rfl, hp, hk⟩ := c
  exact sl_congr f _ _ es (fun p hp => List.any_eq_true.2 ⟨p, hp, WideAt.sameKey_self (hk p hp)⟩)
theorem ws_step {f : Lit → DataW Value → Nat} {left : Lit → Bool} {D : DataW Value} {k : Lit} (c : Canon D) (hl : left k = true) (hin : Maps.has D k = true) : ws f left D = f k (D.atKey k .nil) + ws f (fun z => left z && !z.sameKey k) D := by
  obtain ⟨es, rfl, hp, hk⟩ := c
  obtain ⟨p, hpm, hs⟩ := List.any_eq_true.1 hin
  have e : p.1 = k := WideAt.sameKey_eq hs
  subst e
  have a1 : (DataW.map es).atKey p.1 .nil = p.2 := WideAt.atKey_mem .nil (hk p hpm) (apart_of_rising hp) hpm
  rw [a1]
  exact sl_step f left es (apart_of_rising hp) hk p hpm hl
theorem ws_end {f : Lit → DataW Value → Nat} {left : Lit → Bool} {D : DataW Value} (h : ∀ k, left k = false) : ws f left D = 0 := by
  cases D <;> try rfl
  exact sl_none f left _ (fun p _ => h p.1)
theorem wt_put {f : Lit → DataW Value → Nat} {D : DataW Value} (hm : IsMap D) {k : Lit} {d : DataW Value} (hin : Maps.has D k = false) : wt f (D.put k d) = f k d + wt f D := by
  obtain ⟨es, rfl⟩ := hm
  show sl f (fun _ => true) (DataW.insert (k, d) (es.filter fun p => !p.1.sameKey k)) = _
  rw [List.filter_eq_self.2 (fun p hp => by
    have : es.any (fun p => p.1.sameKey k) = false := hin
    have := List.any_eq_false.1 this p hp
    simpa using this), sl_insert]
  rfl
theorem ws_le {f : Lit → DataW Value → Nat} {left : Lit → Bool} {D : DataW Value} (m : Nat) (hm : ∀ k d, f k d ≤ m) : ws f left D ≤ m * Maps.size D := by
  cases D <;> try exact Nat.zero_le _
  exact sl_le f left m hm _
end Go.Proofs.YtfjiejndnbnkfaaFmt.Wsum
