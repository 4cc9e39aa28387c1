/- What the string reader takes: the pieces of a literal's body, each with the units that it denotes; what the printer writes is such a body. No program in it. -/
import Derived.Test.YtpoakndmajoiaaaFmtEsq
import Derived.Lib.RuneBytes
namespace Go.Proofs.YtpoakndmajoiaaaFmt.Dcs
open Go.RowKit Go.Proofs.YtpoakndmajoiaaaFmt.Base Go.Proofs.YtpoakndmajoiaaaFmt.Esq
set_option linter.unusedVariables false
def escs : List (UInt8 × Nat) := [(98, 8), (102, 12), (110, 10), (114, 13), (118, 11), (92, 92), (39, 39), (34, 34), (96, 96), (36, 36), (47, 47)]
inductive Bod (q : Nat) : List UInt8 → List Nat → Prop where
  | nil : Bod q [] []
  | esc (e : UInt8) (v : Nat) (t : List UInt8) (u : List Nat) (h : (e, v) ∈ escs) (r : Bod q t u) : Bod q (92 :: e :: t) (v :: u)
  | zero (t : List UInt8) (u : List Nat) (h : ∀ d, t.head? = some d → ¬ (48 ≤ d.toNat ∧ d.toNat ≤ 57)) (r : Bod q t u) : Bod q (92 :: 48 :: t) (0 :: u)
  | hex2 (a b : Nat) (t : List UInt8) (u : List Nat) (ha : a < 16) (hb : b < 16) (r : Bod q t u) : Bod q (92 :: 120 :: Esq.hx a :: Esq.hx b :: t) ((a * 16 + b) :: u)
  | hex4 (c : Nat) (t : List UInt8) (u : List Nat) (hc : c ≤ 65535) (r : Bod q t u) : Bod q (92 :: 117 :: Esq.hx (c / 4096) :: Esq.hx (c / 256 % 16) :: Esq.hx (c / 16 % 16) :: Esq.hx (c % 16) :: t) (c :: u)
  | raw (c : UInt8) (t : List UInt8) (u : List Nat) (h1 : c.toNat < 128) (h2 : c.toNat ≠ q) (h3 : c.toNat ≠ 92) (h4 : c.toNat ≠ 13) (h5 : c.toNat = 10 → q = 96) (h6 : q = 96 → c.toNat = 36 → t.head? ≠ some 123) (r : Bod q t u) : Bod q (c :: t) (c.toNat :: u)
  | u2 (a b : Nat) (t : List UInt8) (u : List Nat) (h1 : 2 ≤ a) (h2 : a < 32) (h3 : b < 64) (r : Bod q t u) : Bod q (UInt8.ofNat (192 + a) :: UInt8.ofNat (128 + b) :: t) ((a * 64 + b) :: u)
  | u3 (a b c : Nat) (t : List UInt8) (u : List Nat) (h1 : a < 16) (h2 : b < 64) (h3 : c < 64) (h4 : 2048 ≤ a * 4096 + b * 64 + c) (h5 : a * 4096 + b * 64 + c < 55296 ∨ 57343 < a * 4096 + b * 64 + c) (r : Bod q t u) :
      Bod q (UInt8.ofNat (224 + a) :: UInt8.ofNat (128 + b) :: UInt8.ofNat (128 + c) :: t) ((a * 4096 + b * 64 + c) :: u)
  | u4 (a b c d v1 v2 : Nat) (t : List UInt8) (u : List Nat) (h1 : a < 5) (h2 : b < 64) (h3 : c < 64) (h4 : d < 64) (h5 : 65536 ≤ a * 262144 + b * 4096 + c * 64 + d) (h6 : a * 262144 + b * 4096 + c * 64 + d ≤ 1114111)
      (e1 : v1 = 55296 + (a * 262144 + b * 4096 + c * 64 + d - 65536) / 1024) (e2 : v2 = 56320 + (a * 262144 + b * 4096 + c * 64 + d - 65536) % 1024) (r : Bod q t u) :
      Bod q (UInt8.ofNat (240 + a) :: UInt8.ofNat (128 + b) :: UInt8.ofNat (128 + c) :: UInt8.ofNat (128 + d) :: t) (v1 :: v2 :: u)
theorem Bod.len {q : Nat} {t : List UInt8} {u : List Nat} (h : Bod q t u) : u.length ≤ t.length := by
  induction h <;> simp only [List.length_cons, List.length_nil] at * <;> omega
/-! ### the printer's pieces -/
def codes : List Nat := [0, 7, 8, 12, 10, 13, 11, 27, 92, 47, 39, 34, 96, 36, 8232, 8233, 65279]
theorem lookup_none {c : Nat} (h : c ∉ codes) : simple.lookup c = none := by
  unfold codes at h
  simp only [List.mem_cons, List.not_mem_nil, or_false, not_or] at h
  unfold simple
  simp [List.lookup, h, beq_eq_false_iff_ne.2]
theorem byt_else {U : List Nat} {q k : Nat} (h : U.getD k 0 ∉ codes) : byt U q k = byt3 U k := by
  unfold byt
  rw [lookup_none h]
  show byt2 U q k = _
  unfold codes at h
  simp only [List.mem_cons, List.not_mem_nil, or_false, not_or] at h
  obtain ⟨h0, h7, h8, h12, h10, h13, h11, h27, h92, h47, h39, h34, h96, h36, _⟩ := h
  unfold byt2
  rw [if_neg h0, if_neg h10, if_neg h47, if_neg (by rintro (h | h | h) <;> contradiction), if_neg h36]
theorem rune2 (a b : Nat) (h1 : 2 ≤ a) (h2 : a < 32) (h3 : b < 64) : rune8 ((a * 64 + b : Nat) : Int) = [UInt8.ofNat (192 + a), UInt8.ofNat (128 + b)] := by
  unfold rune8
  rw [Lib.encodeRuneZ_two (by omega) (by omega)]
  show [UInt8.ofNat _, UInt8.ofNat _] = _
  rw [show ((192 : Int) + ((a * 64 + b : Nat) : Int) / 64).toNat = 192 + a by omega, show ((128 : Int) + ((a * 64 + b : Nat) : Int) % 64).toNat = 128 + b by omega]
theorem rune3 (a b c : Nat) (h1 : a < 16) (h2 : b < 64) (h3 : c < 64) (h4 : 2048 ≤ a * 4096 + b * 64 + c) (h5 : a * 4096 + b * 64 + c < 55296 ∨ 57343 < a * 4096 + b * 64 + c) : rune8 ((a * 4096 + b * 64 + c : Nat) : Int) = [UInt8.ofNat (224 + a), UInt8.ofNat (128 + b), UInt8.ofNat (128 + c)] := by
  unfold rune8 Lib.encodeRuneZ
  rw [if_neg (by omega), if_neg (by omega), if_pos (by omega)]
  show [UInt8.ofNat _, UInt8.ofNat _, UInt8.ofNat _] = _
  rw [show ((224 : Int) + ((a * 4096 + b * 64 + c : Nat) : Int) / 4096).toNat = 224 + a by omega, show ((128 : Int) + ((a * 4096 + b * 64 + c : Nat) : Int) / 64 % 64).toNat = 128 + b by omega, show ((128 : Int) + ((a * 4096 + b * 64 + c : Nat) : Int) % 64).toNat = 128 + c by omega]
theorem rune4 (a b c d : Nat) (h1 : a < 5) (h2 : b < 64) (h3 : c < 64) (h4 : d < 64) (h5 : 65536 ≤ a * 262144 + b * 4096 + c * 64 + d) (h6 : a * 262144 + b * 4096 + c * 64 + d ≤ 1114111) : rune8 ((a * 262144 + b * 4096 + c * 64 + d : Nat) : Int) = [UInt8.ofNat (240 + a), UInt8.ofNat (128 + b), UInt8.ofNat (128 + c), UInt8.ofNat (128 + d)] := by
  unfold rune8 Lib.encodeRuneZ
  rw [if_neg (by omega), if_neg (by omega), if_neg (by omega), if_pos (by omega)]
  show [UInt8.ofNat _, UInt8.ofNat _, UInt8.ofNat _, UInt8.ofNat _] = _
  rw [show ((240 : Int) + ((a * 262144 + b * 4096 + c * 64 + d : Nat) : Int) / 262144).toNat = 240 + a by omega, show ((128 : Int) + ((a * 262144 + b * 4096 + c * 64 + d : Nat) : Int) / 4096 % 64).toNat = 128 + b by omega, show ((128 : Int) + ((a * 262144 + b * 4096 + c * 64 + d : Nat) : Int) / 64 % 64).toNat = 128 + c by omega, show ((128 : Int) + ((a * 262144 + b * 4096 + c * 64 + d : Nat) : Int) % 64).toNat = 128 + d by omega]
theorem nat8 (n : Nat) (h : n < 256) : (UInt8.ofNat n).toNat = n := UInt8.toNat_ofNat_of_lt' (by show n < 256; omega)
theorem digs2 (r : Nat) (h1 : 128 ≤ r) (h2 : r ≤ 2047) : ∃ a b, r = a * 64 + b ∧ 2 ≤ a ∧ a < 32 ∧ b < 64 := ⟨r / 64, r % 64, by omega, by omega, by omega, by omega⟩
theorem digs3 (r : Nat) (h1 : 2048 ≤ r) (h2 : r ≤ 65535) : ∃ a b c, r = a * 4096 + b * 64 + c ∧ a < 16 ∧ b < 64 ∧ c < 64 := ⟨r / 4096, r / 64 % 64, r % 64, by omega, by omega, by omega, by omega⟩
theorem digs4 (r : Nat) (h1 : 65536 ≤ r) (h2 : r ≤ 1114111) : ∃ a b c d, r = a * 262144 + b * 4096 + c * 64 + d ∧ a < 5 ∧ b < 64 ∧ c < 64 ∧ d < 64 := ⟨r / 262144, r / 4096 % 64, r / 64 % 64, r % 64, by omega, by omega, by omega, by omega, by omega⟩
theorem rune_one (c : Nat) (h : c ≤ 127) : rune8 (c : Int) = [UInt8.ofNat c] := by
  unfold rune8
  rw [Lib.encodeRuneZ_one (by omega) (by omega)]
  show [UInt8.ofNat _] = _
  rw [show ((c : Int)).toNat = c by omega]
/-- The first byte that a unit writes: a backslash, a byte past ASCII's letters, or the unit itself. -/
theorem head_byt (U : List Nat) (q k : Nat) (hw : U.getD k 0 ≤ 65535) : ∃ c t, byt U q k = c :: t ∧ (c = 92 ∨ 127 ≤ c.toNat ∨ c.toNat = U.getD k 0) := by
  by_cases hcs : U.getD k 0 ∈ codes
  · have hcs' := hcs
    unfold codes at hcs'
    simp only [List.mem_cons, List.not_mem_nil, or_false] at hcs'
    rcases hcs' with hc | hc | hc | hc | hc | hc | hc | hc | hc | hc | hc | hc | hc | hc | hc | hc | hc
    all_goals
      unfold byt
      rw [hc]
      first
      | exact ⟨_, _, rfl, .inl rfl⟩
      | (show ∃ c t, byt2 U q k = c :: t ∧ _
         unfold byt2 esc1
         rw [hc]
         simp only [reduceCtorEq, or_false, or_true, Nat.reduceEqDiff, ↓reduceIte]
         repeat' split
         all_goals first
           | exact ⟨_, _, rfl, .inl rfl⟩
           | exact ⟨_, _, rfl, .inr (.inr rfl)⟩)
  · rw [byt_else hcs]
    unfold byt3
    by_cases h1 : U.getD k 0 ≤ 126
    · rw [if_pos h1]; exact ⟨_, _, rfl, .inr (.inr (nat8 _ (by omega)))⟩
    · rw [if_neg h1]
      by_cases h2 : pair U k = true
      · rw [if_pos h2]
        unfold pair at h2
        have h3 := of_decide_eq_true h2
        obtain ⟨a, b, c, d, e, g1, g2, g3, g4⟩ := digs4 ((U.getD k 0) * 1024 + U.getD (k + 1) 0 - 56613888) (by omega) (by omega)
        rw [show ((U.getD k 0 : Int) * 1024 + (U.getD (k + 1) 0 : Nat) - 56613888) = ((a * 262144 + b * 4096 + c * 64 + d : Nat) : Int) by omega, rune4 a b c d g1 g2 g3 g4 (by omega) (by omega)]
        exact ⟨_, _, rfl, .inr (.inl (by rw [nat8 _ (by omega)]; omega))⟩
      · rw [if_neg h2]
        by_cases h3 : 55296 ≤ U.getD k 0 ∧ U.getD k 0 ≤ 57343
        · rw [if_pos h3]; exact ⟨_, _, rfl, .inl rfl⟩
        · rw [if_neg h3]
          by_cases h4 : U.getD k 0 = 127
          · rw [h4]; exact ⟨_, _, rune_one 127 (by omega), .inr (.inl (by decide))⟩
          · by_cases h5 : U.getD k 0 ≤ 2047
            · obtain ⟨a, b, e, g1, g2, g3⟩ := digs2 (U.getD k 0) (by omega) h5
              rw [e, rune2 a b g1 g2 g3]
              exact ⟨_, _, rfl, .inr (.inl (by rw [nat8 _ (by omega)]; omega))⟩
            · obtain ⟨a, b, c, e, g1, g2, g3⟩ := digs3 (U.getD k 0) (by omega) hw
              rw [e, rune3 a b c g1 g2 g3 (by omega) (by omega)]
              exact ⟨_, _, rfl, .inr (.inl (by rw [nat8 _ (by omega)]; omega))⟩
def Wf (U : List Nat) : Prop := ∀ k, k < U.length → U.getD k 0 ≤ 65535
theorem head_rest (U : List Nat) (q k : Nat) (hW : Wf U) (d : UInt8) (h : (rest U q k).head? = some d) (h1 : d ≠ 92) (h2 : d.toNat < 127) : k < U.length ∧ d.toNat = U.getD k 0 := by
  by_cases hk : k < U.length
  · obtain ⟨c, t, e, hc⟩ := head_byt U q k (hW k hk)
    rw [rest_step U q k hk, e] at h
    injection h with h
    subst h
    rcases hc with hc | hc | hc
    · exact absurd hc h1
    · omega
    · exact ⟨hk, hc⟩
  · rw [rest_end U q k (by omega)] at h
    cases h
theorem step_bod (U : List Nat) (q k : Nat) (hW : Wf U) (hq : q = 34 ∨ q = 39 ∨ q = 96) (hk : k < U.length) (ih : Bod q (rest U q (nxt U k)) (U.drop (nxt U k))) : Bod q (byt U q k ++ rest U q (nxt U k)) (U.drop k) := by
  have hw := hW k hk
  have hdr : U.drop k = U.getD k 0 :: U.drop (k + 1) := by rw [List.drop_eq_getElem_cons hk]; simp [List.getD, hk]
  by_cases hcs : U.getD k 0 ∈ codes
  · have hcs' := hcs
    unfold codes at hcs'
    simp only [List.mem_cons, List.not_mem_nil, or_false] at hcs'
    rcases hcs' with hc | hc | hc | hc | hc | hc | hc | hc | hc | hc | hc | hc | hc | hc | hc | hc | hc
    · have hp : ¬ pair U k = true := by unfold pair; rw [hc]; simp
      rw [show nxt U k = k + 1 by unfold nxt; rw [if_neg hp]] at ih ⊢
      rw [hdr, hc]
      by_cases hd : k + 1 < U.length ∧ 48 ≤ U.getD (k + 1) 0 ∧ U.getD (k + 1) 0 ≤ 57
      · rw [show byt U q k = [92, 120, 48, 48] by unfold byt; rw [hc]; show byt2 U q k = _; unfold byt2; rw [if_pos hc, if_pos hd]]
        exact Bod.hex2 0 0 _ _ (by decide) (by decide) ih
      · rw [show byt U q k = [92, 48] by unfold byt; rw [hc]; show byt2 U q k = _; unfold byt2; rw [if_pos hc, if_neg hd]]
        refine Bod.zero _ _ (fun d h1 h2 => ?_) ih
        obtain ⟨g1, g2⟩ := head_rest U q (k + 1) hW d h1 (by intro e; subst e; exact absurd h2.2 (by decide)) (by omega)
        exact hd ⟨g1, by omega, by omega⟩
    · have hp : ¬ pair U k = true := by unfold pair; rw [hc]; simp
      rw [show nxt U k = k + 1 by unfold nxt; rw [if_neg hp]] at ih ⊢
      rw [hdr, hc]
      rw [show byt U q k = [92, 120, 48, 55] by unfold byt; rw [hc]; rfl]
      exact Bod.hex2 0 7 _ _ (by decide) (by decide) ih
    · have hp : ¬ pair U k = true := by unfold pair; rw [hc]; simp
      rw [show nxt U k = k + 1 by unfold nxt; rw [if_neg hp]] at ih ⊢
      rw [hdr, hc]
      rw [show byt U q k = [92, 98] by unfold byt; rw [hc]; rfl]
      exact Bod.esc 98 8 _ _ (by decide) ih
    · have hp : ¬ pair U k = true := by unfold pair; rw [hc]; simp
      rw [show nxt U k = k + 1 by unfold nxt; rw [if_neg hp]] at ih ⊢
      rw [hdr, hc]
      rw [show byt U q k = [92, 102] by unfold byt; rw [hc]; rfl]
      exact Bod.esc 102 12 _ _ (by decide) ih
    · have hp : ¬ pair U k = true := by unfold pair; rw [hc]; simp
      rw [show nxt U k = k + 1 by unfold nxt; rw [if_neg hp]] at ih ⊢
      rw [hdr, hc]
      by_cases hd : q = 96
      · rw [show byt U q k = [10] by unfold byt; rw [hc]; show byt2 U q k = _; unfold byt2; rw [if_neg (by rw [hc]; decide), if_pos hc, if_pos hd]]
        exact Bod.raw 10 _ _ (by decide) (by show 10 ≠ q; omega) (by decide) (by decide) (fun _ => hd) (fun _ h => absurd h (by decide)) ih
      · rw [show byt U q k = [92, 110] by unfold byt; rw [hc]; show byt2 U q k = _; unfold byt2; rw [if_neg (by rw [hc]; decide), if_pos hc, if_neg hd]]
        exact Bod.esc 110 10 _ _ (by decide) ih
    · have hp : ¬ pair U k = true := by unfold pair; rw [hc]; simp
      rw [show nxt U k = k + 1 by unfold nxt; rw [if_neg hp]] at ih ⊢
      rw [hdr, hc]
      rw [show byt U q k = [92, 114] by unfold byt; rw [hc]; rfl]
      exact Bod.esc 114 13 _ _ (by decide) ih
    · have hp : ¬ pair U k = true := by unfold pair; rw [hc]; simp
      rw [show nxt U k = k + 1 by unfold nxt; rw [if_neg hp]] at ih ⊢
      rw [hdr, hc]
      rw [show byt U q k = [92, 118] by unfold byt; rw [hc]; rfl]
      exact Bod.esc 118 11 _ _ (by decide) ih
    · have hp : ¬ pair U k = true := by unfold pair; rw [hc]; simp
      rw [show nxt U k = k + 1 by unfold nxt; rw [if_neg hp]] at ih ⊢
      rw [hdr, hc]
      rw [show byt U q k = [92, 120, 49, 66] by unfold byt; rw [hc]; rfl]
      exact Bod.hex2 1 11 _ _ (by decide) (by decide) ih
    · have hp : ¬ pair U k = true := by unfold pair; rw [hc]; simp
      rw [show nxt U k = k + 1 by unfold nxt; rw [if_neg hp]] at ih ⊢
      rw [hdr, hc]
      rw [show byt U q k = [92, 92] by unfold byt; rw [hc]; rfl]
      exact Bod.esc 92 92 _ _ (by decide) ih
    · have hp : ¬ pair U k = true := by unfold pair; rw [hc]; simp
      rw [show nxt U k = k + 1 by unfold nxt; rw [if_neg hp]] at ih ⊢
      rw [hdr, hc]
      by_cases hd : tag U (k + 1) = true
      · rw [show byt U q k = [92, 47] by unfold byt; rw [hc]; show byt2 U q k = _; unfold byt2; rw [if_neg (by rw [hc]; decide), if_neg (by rw [hc]; decide), if_pos hc, if_pos hd]]
        exact Bod.esc 47 47 _ _ (by decide) ih
      · rw [show byt U q k = [47] by unfold byt; rw [hc]; show byt2 U q k = _; unfold byt2; rw [if_neg (by rw [hc]; decide), if_neg (by rw [hc]; decide), if_pos hc, if_neg hd]]
        exact Bod.raw 47 _ _ (by decide) (by show 47 ≠ q; omega) (by decide) (by decide) (fun h => absurd h (by decide)) (fun _ h => absurd h (by decide)) ih
    · have hp : ¬ pair U k = true := by unfold pair; rw [hc]; simp
      rw [show nxt U k = k + 1 by unfold nxt; rw [if_neg hp]] at ih ⊢
      rw [hdr, hc]
      by_cases hd : q = 39
      · rw [show byt U q k = [92, 39] by unfold byt; rw [hc]; show byt2 U q k = _; unfold byt2; rw [if_neg (by rw [hc]; decide), if_neg (by rw [hc]; decide), if_neg (by rw [hc]; decide), if_pos (by rw [hc]; decide)]; unfold esc1; rw [hc]; rw [if_pos hd]; rfl]
        exact Bod.esc 39 39 _ _ (by decide) ih
      · rw [show byt U q k = [39] by unfold byt; rw [hc]; show byt2 U q k = _; unfold byt2; rw [if_neg (by rw [hc]; decide), if_neg (by rw [hc]; decide), if_neg (by rw [hc]; decide), if_pos (by rw [hc]; decide)]; unfold esc1; rw [hc]; rw [if_neg hd]; rfl]
        exact Bod.raw 39 _ _ (by decide) (by show 39 ≠ q; omega) (by decide) (by decide) (fun h => absurd h (by decide)) (fun _ h => absurd h (by decide)) ih
    · have hp : ¬ pair U k = true := by unfold pair; rw [hc]; simp
      rw [show nxt U k = k + 1 by unfold nxt; rw [if_neg hp]] at ih ⊢
      rw [hdr, hc]
      by_cases hd : q = 34
      · rw [show byt U q k = [92, 34] by unfold byt; rw [hc]; show byt2 U q k = _; unfold byt2; rw [if_neg (by rw [hc]; decide), if_neg (by rw [hc]; decide), if_neg (by rw [hc]; decide), if_pos (by rw [hc]; decide)]; unfold esc1; rw [hc]; rw [if_pos hd]; rfl]
        exact Bod.esc 34 34 _ _ (by decide) ih
      · rw [show byt U q k = [34] by unfold byt; rw [hc]; show byt2 U q k = _; unfold byt2; rw [if_neg (by rw [hc]; decide), if_neg (by rw [hc]; decide), if_neg (by rw [hc]; decide), if_pos (by rw [hc]; decide)]; unfold esc1; rw [hc]; rw [if_neg hd]; rfl]
        exact Bod.raw 34 _ _ (by decide) (by show 34 ≠ q; omega) (by decide) (by decide) (fun h => absurd h (by decide)) (fun _ h => absurd h (by decide)) ih
    · have hp : ¬ pair U k = true := by unfold pair; rw [hc]; simp
      rw [show nxt U k = k + 1 by unfold nxt; rw [if_neg hp]] at ih ⊢
      rw [hdr, hc]
      by_cases hd : q = 96
      · rw [show byt U q k = [92, 96] by unfold byt; rw [hc]; show byt2 U q k = _; unfold byt2; rw [if_neg (by rw [hc]; decide), if_neg (by rw [hc]; decide), if_neg (by rw [hc]; decide), if_pos (by rw [hc]; decide)]; unfold esc1; rw [hc]; rw [if_pos hd]; rfl]
        exact Bod.esc 96 96 _ _ (by decide) ih
      · rw [show byt U q k = [96] by unfold byt; rw [hc]; show byt2 U q k = _; unfold byt2; rw [if_neg (by rw [hc]; decide), if_neg (by rw [hc]; decide), if_neg (by rw [hc]; decide), if_pos (by rw [hc]; decide)]; unfold esc1; rw [hc]; rw [if_neg hd]; rfl]
        exact Bod.raw 96 _ _ (by decide) (by show 96 ≠ q; omega) (by decide) (by decide) (fun h => absurd h (by decide)) (fun _ h => absurd h (by decide)) ih
    · have hp : ¬ pair U k = true := by unfold pair; rw [hc]; simp
      rw [show nxt U k = k + 1 by unfold nxt; rw [if_neg hp]] at ih ⊢
      rw [hdr, hc]
      by_cases hd : q = 96 ∧ k + 1 < U.length ∧ U.getD (k + 1) 0 = 123
      · rw [show byt U q k = [92, 36] by unfold byt; rw [hc]; show byt2 U q k = _; unfold byt2; rw [if_neg (by rw [hc]; decide), if_neg (by rw [hc]; decide), if_neg (by rw [hc]; decide), if_neg (by rw [hc]; decide), if_pos hc, if_pos hd]]
        exact Bod.esc 36 36 _ _ (by decide) ih
      · rw [show byt U q k = [36] by unfold byt; rw [hc]; show byt2 U q k = _; unfold byt2; rw [if_neg (by rw [hc]; decide), if_neg (by rw [hc]; decide), if_neg (by rw [hc]; decide), if_neg (by rw [hc]; decide), if_pos hc, if_neg hd]]
        refine Bod.raw 36 _ _ (by decide) (by show 36 ≠ q; omega) (by decide) (by decide) (fun h => absurd h (by decide)) (fun g1 _ g2 => ?_) ih
        obtain ⟨g3, g4⟩ := head_rest U q (k + 1) hW 123 g2 (by decide) (by decide)
        exact hd ⟨g1, g3, g4.symm⟩
    · have hp : ¬ pair U k = true := by unfold pair; rw [hc]; simp
      rw [show nxt U k = k + 1 by unfold nxt; rw [if_neg hp]] at ih ⊢
      rw [hdr, hc]
      rw [show byt U q k = [92, 117, 50, 48, 50, 56] by unfold byt; rw [hc]; rfl]
      exact Bod.hex4 8232 _ _ (by decide) ih
    · have hp : ¬ pair U k = true := by unfold pair; rw [hc]; simp
      rw [show nxt U k = k + 1 by unfold nxt; rw [if_neg hp]] at ih ⊢
      rw [hdr, hc]
      rw [show byt U q k = [92, 117, 50, 48, 50, 57] by unfold byt; rw [hc]; rfl]
      exact Bod.hex4 8233 _ _ (by decide) ih
    · have hp : ¬ pair U k = true := by unfold pair; rw [hc]; simp
      rw [show nxt U k = k + 1 by unfold nxt; rw [if_neg hp]] at ih ⊢
      rw [hdr, hc]
      rw [show byt U q k = [92, 117, 70, 69, 70, 70] by unfold byt; rw [hc]; rfl]
      exact Bod.hex4 65279 _ _ (by decide) ih
  · rw [byt_else hcs]
    unfold codes at hcs
    simp only [List.mem_cons, List.not_mem_nil, or_false, not_or] at hcs
    obtain ⟨h0, h7, h8, h12, h10, h13, h11, h27, h92, h47, h39, h34, h96, h36, _⟩ := hcs
    unfold byt3
    by_cases h1 : U.getD k 0 ≤ 127
    · have hp : ¬ pair U k = true := fun h => by unfold pair at h; have := of_decide_eq_true h; omega
      rw [show nxt U k = k + 1 by unfold nxt; rw [if_neg hp]] at ih ⊢
      have e : (if U.getD k 0 ≤ 126 then [UInt8.ofNat (U.getD k 0)] else if pair U k then rune8 ((U.getD k 0 : Int) * 1024 + (U.getD (k + 1) 0 : Nat) - 56613888) else if 55296 ≤ U.getD k 0 ∧ U.getD k 0 ≤ 57343 then hx4 (U.getD k 0) else rune8 ((U.getD k 0 : Nat) : Int)) = [UInt8.ofNat (U.getD k 0)] := by
        by_cases h2 : U.getD k 0 ≤ 126
        · rw [if_pos h2]
        · rw [if_neg h2, if_neg hp, if_neg (by omega), rune_one _ h1]
      rw [e, hdr]
      have e8 := nat8 (U.getD k 0) (by omega)
      have := Bod.raw (q := q) (UInt8.ofNat (U.getD k 0)) (rest U q (k + 1)) (U.drop (k + 1)) (by omega) (by omega) (by omega) (by omega) (by omega) (by omega) ih
      rw [e8] at this
      exact this
    · rw [if_neg (by omega)]
      by_cases h2 : pair U k = true
      · rw [if_pos h2]
        rw [show nxt U k = k + 2 by unfold nxt; rw [if_pos h2]] at ih ⊢
        unfold pair at h2
        have h3 := of_decide_eq_true h2
        have hdr2 : U.drop (k + 1) = U.getD (k + 1) 0 :: U.drop (k + 2) := by rw [List.drop_eq_getElem_cons h3.2.2.1]; simp [List.getD, h3.2.2.1]
        obtain ⟨a, b, c, d, e, g1, g2, g3, g4⟩ := digs4 ((U.getD k 0) * 1024 + U.getD (k + 1) 0 - 56613888) (by omega) (by omega)
        rw [show ((U.getD k 0 : Int) * 1024 + (U.getD (k + 1) 0 : Nat) - 56613888) = ((a * 262144 + b * 4096 + c * 64 + d : Nat) : Int) by omega, rune4 a b c d g1 g2 g3 g4 (by omega) (by omega), hdr, hdr2]
        exact Bod.u4 a b c d _ _ _ _ g1 g2 g3 g4 (by omega) (by omega) (by omega) (by omega) ih
      · rw [if_neg h2]
        rw [show nxt U k = k + 1 by unfold nxt; rw [if_neg h2]] at ih ⊢
        rw [hdr]
        by_cases h3 : 55296 ≤ U.getD k 0 ∧ U.getD k 0 ≤ 57343
        · rw [if_pos h3]; exact Bod.hex4 _ _ _ hw ih
        · rw [if_neg h3]
          by_cases h5 : U.getD k 0 ≤ 2047
          · obtain ⟨a, b, e, g1, g2, g3⟩ := digs2 (U.getD k 0) (by omega) h5
            rw [e, rune2 a b g1 g2 g3]
            exact Bod.u2 a b _ _ g1 g2 g3 ih
          · obtain ⟨a, b, c, e, g1, g2, g3⟩ := digs3 (U.getD k 0) (by omega) hw
            rw [e, rune3 a b c g1 g2 g3 (by omega) (by omega)]
            exact Bod.u3 a b c _ _ g1 g2 g3 (by omega) (by omega) ih
/-- What the printer writes is a body that denotes the units. -/
theorem rest_bod (U : List Nat) (q : Nat) (hW : Wf U) (hq : q = 34 ∨ q = 39 ∨ q = 96) : ∀ (f k : Nat), U.length - k ≤ f → Bod q (rest U q k) (U.drop k)
  | 0, k, h => by
    rw [rest_end U q k (by omega), List.drop_eq_nil_of_le (by omega)]
    exact Bod.nil
  | f + 1, k, h => by
    by_cases hk : k < U.length
    · have hn := nxt_in U k hk
      rw [rest_step U q k hk]
      exact step_bod U q k hW hq hk (rest_bod U q hW hq f (nxt U k) (by omega))
    · rw [rest_end U q k (by omega), List.drop_eq_nil_of_le (by omega)]
      exact Bod.nil
theorem body (U : List Nat) (q : Nat) (hW : Wf U) (hq : q = 34 ∨ q = 39 ∨ q = 96) : Bod q (rest U q 0) U := rest_bod U q hW hq U.length 0 (by omega)
end Go.Proofs.YtpoakndmajoiaaaFmt.Dcs
