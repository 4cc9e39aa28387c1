/- What printUnquotedUTF16 writes (no line limit, not ASCII-only, nothing unsupported): a function of the units and the quote. No program in it. -/
import Derived.Test.YtpoakndmajoiaaaFmtBase
import Derived.WalkKit
import Derived.Shelf.Spec.EncodeRune
namespace Go.Proofs.YtpoakndmajoiaaaFmt.Esq
open Go.RowKit Go.Proofs.YtpoakndmajoiaaaFmt.Base
set_option linter.unusedVariables false
def lowc (a : Nat) : Nat := if 65 ≤ a ∧ a ≤ 90 then a + 32 else a
def scrL : List Nat := [115, 99, 114, 105, 112, 116]
/-- Do the six units at j spell the word 'script'? -/
def scr (U : List Nat) (j : Nat) : Bool := (List.range 6).all fun k => lowc (U.getD (j + k) 0) == scrL.getD k 0
/-- Does the slash ahead of j close a script tag? -/
def tag (U : List Nat) (j : Nat) : Bool := decide (2 ≤ j ∧ U.getD (j - 2) 0 = 60 ∧ j + 6 ≤ U.length) && scr U j
def hx (n : Nat) : UInt8 := if n < 10 then UInt8.ofNat (48 + n) else UInt8.ofNat (55 + n)
def hx4 (c : Nat) : List UInt8 := [92, 117, hx (c / 4096), hx (c / 256 % 16), hx (c / 16 % 16), hx (c % 16)]
def rune8 (r : Int) : List UInt8 := (Lib.encodeRuneZ r).map fun x => UInt8.ofNat x.toNat
theorem rune_len (r : Int) : (rune8 r).length ≤ 4 := by
  unfold rune8 Lib.encodeRuneZ
  rw [List.length_map]
  repeat' split
  all_goals simp
def esc1 (q c : Nat) : List UInt8 := if q = c then [92, UInt8.ofNat c] else [UInt8.ofNat c]
/-- The units that always write the same. -/
def simple : List (Nat × List UInt8) := [(7, [92, 120, 48, 55]), (8, [92, 98]), (12, [92, 102]), (13, [92, 114]), (11, [92, 118]), (27, [92, 120, 49, 66]), (92, [92, 92]), (8232, [92, 117, 50, 48, 50, 56]), (8233, [92, 117, 50, 48, 50, 57]), (65279, [92, 117, 70, 69, 70, 70])]
/-- A surrogate pair at i. -/
def pair (U : List Nat) (i : Nat) : Bool := decide (55296 ≤ U.getD i 0 ∧ U.getD i 0 ≤ 56319 ∧ i + 1 < U.length ∧ 56320 ≤ U.getD (i + 1) 0 ∧ U.getD (i + 1) 0 ≤ 57343)
def nxt (U : List Nat) (i : Nat) : Nat := if pair U i then i + 2 else i + 1
def byt3 (U : List Nat) (i : Nat) : List UInt8 :=
  if U.getD i 0 ≤ 126 then [UInt8.ofNat (U.getD i 0)]
  else if pair U i then rune8 ((U.getD i 0 : Int) * 1024 + (U.getD (i + 1) 0 : Nat) - 56613888)
  else if 55296 ≤ U.getD i 0 ∧ U.getD i 0 ≤ 57343 then hx4 (U.getD i 0)
  else rune8 ((U.getD i 0 : Nat) : Int)
def byt2 (U : List Nat) (q i : Nat) : List UInt8 :=
  if U.getD i 0 = 0 then (if i + 1 < U.length ∧ 48 ≤ U.getD (i + 1) 0 ∧ U.getD (i + 1) 0 ≤ 57 then [92, 120, 48, 48] else [92, 48])
  else if U.getD i 0 = 10 then (if q = 96 then [10] else [92, 110])
  else if U.getD i 0 = 47 then (if tag U (i + 1) then [92, 47] else [47])
  else if U.getD i 0 = 39 ∨ U.getD i 0 = 34 ∨ U.getD i 0 = 96 then esc1 q (U.getD i 0)
  else if U.getD i 0 = 36 then (if q = 96 ∧ i + 1 < U.length ∧ U.getD (i + 1) 0 = 123 then [92, 36] else [36])
  else byt3 U i
/-- What the unit at i writes. -/
def byt (U : List Nat) (q i : Nat) : List UInt8 :=
  match simple.lookup (U.getD i 0) with
  | some k => k
  | none => byt2 U q i
theorem nxt_in (U : List Nat) (i : Nat) (h : i < U.length) : i < nxt U i ∧ nxt U i ≤ U.length := by
  unfold nxt
  by_cases hp : pair U i = true
  · rw [if_pos hp]
    unfold pair at hp
    have := of_decide_eq_true hp
    omega
  · rw [if_neg hp]; omega
theorem byt3_len (U : List Nat) (i : Nat) : (byt3 U i).length ≤ 6 := by
  unfold byt3
  by_cases h1 : U.getD i 0 ≤ 126
  · rw [if_pos h1]; exact Nat.le_of_ble_eq_true rfl
  · rw [if_neg h1]
    by_cases h2 : pair U i = true
    · rw [if_pos h2]; exact Nat.le_trans (rune_len _) (by omega)
    · rw [if_neg h2]
      by_cases h3 : 55296 ≤ U.getD i 0 ∧ U.getD i 0 ≤ 57343
      · rw [if_pos h3]; exact Nat.le_refl 6
      · rw [if_neg h3]; exact Nat.le_trans (rune_len _) (by omega)
theorem byt_len (U : List Nat) (q i : Nat) : (byt U q i).length ≤ 6 := by
  unfold byt
  cases h : simple.lookup (U.getD i 0) with
  | some k =>
    have hm : ∀ (l : List (Nat × List UInt8)) (c : Nat) (k : List UInt8), (∀ p ∈ l, p.2.length ≤ 6) → l.lookup c = some k → k.length ≤ 6 := by
      intro l
      induction l with
      | nil => intro c k _ h; cases h
      | cons p l ih =>
        intro c k hp h
        rw [List.lookup_cons] at h
        cases hc : c == p.1 with
        | true => rw [hc] at h; injection h with h; subst h; exact hp p (by simp)
        | false => rw [hc] at h; exact ih c k (fun r hr => hp r (by simp [hr])) h
    exact hm simple _ k (by decide) h
  | none =>
    show (byt2 U q i).length ≤ 6
    have h3 := byt3_len U i
    unfold byt2 esc1
    split
    · split <;> simp
    · split
      · split <;> simp
      · split
        · split <;> simp
        · split
          · split <;> simp
          · split
            · split <;> simp
            · exact h3
def outs (U : List Nat) (q : Nat) : Nat → Nat → List UInt8
  | 0, _ => []
  | f + 1, i => if i < U.length then (byt U q i) ++ outs U q f (nxt U i) else []
theorem outs_fuel (U : List Nat) (q : Nat) : ∀ (f g i : Nat), U.length - i ≤ f → U.length - i ≤ g → outs U q f i = outs U q g i
  | 0, 0, i, _, _ => rfl
  | 0, g + 1, i, h, _ => by
    show [] = (if i < U.length then _ else _)
    rw [if_neg (by omega)]
  | f + 1, 0, i, _, h => by
    show (if i < U.length then _ else _) = []
    rw [if_neg (by omega)]
  | f + 1, g + 1, i, hf, hg => by
    show (if i < U.length then _ else _) = (if i < U.length then _ else _)
    by_cases h : i < U.length
    · rw [if_pos h, if_pos h]
      have := nxt_in U i h
      rw [outs_fuel U q f g _ (by omega) (by omega)]
    · rw [if_neg h, if_neg h]
/-- What stands behind the place i. -/
def rest (U : List Nat) (q i : Nat) : List UInt8 := outs U q (U.length - i) i
theorem rest_step (U : List Nat) (q i : Nat) (h : i < U.length) : rest U q i = (byt U q i) ++ rest U q (nxt U i) := by
  unfold rest
  have h1 := nxt_in U i h
  rw [outs_fuel U q (U.length - i) ((U.length - (nxt U i)) + 1 + (U.length - i)) i (by omega) (by omega)]
  rw [show (U.length - (nxt U i)) + 1 + (U.length - i) = (U.length - (nxt U i)) + (U.length - i) + 1 by omega]
  show (if i < U.length then _ else _) = _
  rw [if_pos h, outs_fuel U q _ (U.length - (nxt U i)) (nxt U i) (by omega) (Nat.le_refl _)]
theorem rest_end (U : List Nat) (q i : Nat) (h : U.length ≤ i) : rest U q i = [] := by
  unfold rest
  rw [Nat.sub_eq_zero_of_le h]
  rfl
theorem rest_len (U : List Nat) (q : Nat) : ∀ (f i : Nat), (outs U q f i).length ≤ 6 * f
  | 0, i => Nat.zero_le _
  | f + 1, i => by
    show (if i < U.length then _ else _ : List UInt8).length ≤ _
    split
    · rw [List.length_append]
      have := byt_len U q i
      have := rest_len U q f (nxt U i)
      omega
    · exact Nat.zero_le _
end Go.Proofs.YtpoakndmajoiaaaFmt.Esq
