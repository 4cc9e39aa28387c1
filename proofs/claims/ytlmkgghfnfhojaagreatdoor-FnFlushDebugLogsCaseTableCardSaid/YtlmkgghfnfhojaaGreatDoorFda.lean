/- New debug logs, cloneStrings, textsBytes by their contracts. Conditions: lengths. -/
import Derived.Test.YtlmkgghfnfhojaaGreatDoorSls
import Derived.Test.YtlmkgghfnfhojaaGreatDoorProg
import Derived.WalkKit
import Derived.ProofKit
import Derived.OpenShut
import Derived.ShutString
import Derived.WalkLawsBesides
import Derived.WalkSpells
import Derived.Handy
import Derived.Outline
import Derived.Deep.OwnRows
import Derived.Deep.AppendLies
namespace Go.Proofs.YtlmkgghfnfhojaaGreatDoor.Fda
open Go.ChangeShapes Go.WideShapes Go.ChangeAt Go.RowKit Go.Deep Go.Proofs.YtlmkgghfnfhojaaGreatDoor.Base Go.Proofs.YtlmkgghfnfhojaaGreatDoor.Sls
set_option linter.unusedVariables false
/-- The cells of a log. -/
def dl (what ind : ByteArray) (notes : Value) : Nat → Value
  | 0 => .string what
  | 1 => .string ind
  | _ => notes
theorem dl_set (what ind ind' : ByteArray) (notes : Value) (i : Nat) : (if i = 1 then Value.string ind' else dl what ind notes i) = dl what ind' notes i := by
  match i with
  | 0 => rfl
  | 1 => rfl
  | _ + 2 => simp [dl]

theorem new_any (what : ByteArray) (w : World) :
    Calls Tryz.prog 8 #[.string what] w fun e w' => e = .returned (.pointer (some ⟨w.heap.size, 0, none⟩)) ∧ w' = w.alloc (.cells #[.string what, .string { data := #[] }, .slice none 0 0] 50) := by
  go_enter Tryz.func8, Tryz.ntmps8
  go_wp2
  go_ret
  exact ⟨rfl, rfl⟩
theorem new_row (what : ByteArray) (w : World) : (w.alloc (.cells #[.string what, .string { data := #[] }, .slice none 0 0] 50)).rowIs w.heap.size 50 3 (dl what { data := #[] } (.slice none 0 0)) :=
  World.rowIs_alloc w #[.string what, .string { data := #[] }, .slice none 0 0] 50 _ (fun i hi => by
    match i, hi with
    | 0, _ => rfl
    | 1, _ => rfl
    | 2, _ => rfl)
theorem infoS : (Tryz.prog.info? 9).map (fun i => (i.zero, i.size, i.bytes)) = some (some (.string { data := #[] }), 1, 16) := by kernel_rfl
def copS (l : List ByteArray) (k i : Nat) : Value := if i < k then (sv l).getD i (.string { data := #[] }) else .string { data := #[] }
theorem copS_step (l : List ByteArray) (k : Nat) (u : Value) (h : (sv l)[k]? = some u) (i : Nat) : (if i = k then u else copS l k i) = copS l (k + 1) i := by
  unfold copS
  by_cases hi : i = k
  · subst hi; rw [if_pos rfl, if_pos (by omega), List.getD_eq_getElem?_getD, h]; rfl
  · rw [if_neg hi]
    by_cases h2 : i < k
    · rw [if_pos h2, if_pos (by omega)]
    · rw [if_neg h2, if_neg (by omega)]
theorem cloneS_nil (w : World) : Calls Tryz.prog 6 #[.slice none 0 0] w fun e w' => e = .returned (.slice none 0 0) ∧ w = w' := by
  have hnl := fun (W : World) (a : Option Addr) (n c : Nat) => Lib.run_eql_slice_nil (P := Tryz.prog) W 22 9 a n c 0 0 Tryz.underlying22
  go_enter Tryz.func6, Tryz.ntmps6
  go_wp2
  go_ret
  exact ⟨rfl, rfl⟩
theorem cloneS_some (x : Addr) (n c : Nat) (l : List ByteArray) (w : World) (hl : l.length = n) (hn : n ≤ 4096) (hr : Rd w w.heap.size (some x) (sv l)) :
    Calls Tryz.prog 6 #[.slice (some x) n c] w fun e w' => e = .returned (.slice (some ⟨w.heap.size, 0, none⟩) n n) ∧ Own w' w.heap.size 9 (.slice (some ⟨w.heap.size, 0, none⟩) n n) (sv l) ∧ Below w.heap.size w w' := by
  have hmk := fun W => run_make_row' (P := Tryz.prog) 22 9 (.string { data := #[] }) 16 Tryz.underlying22 infoS rfl .i64 .i64 n (by omega) (by omega) W
  have HL := Lib.hid hl; clear hl
  have HRd := Lib.hid hr; clear hr
  have hnl := fun (W : World) (a : Option Addr) (n c : Nat) => Lib.run_eql_slice_nil (P := Tryz.prog) W 22 9 a n c 0 0 Tryz.underlying22
  go_enter Tryz.func6, Tryz.ntmps6
  go_wp2
  clear hmk hnl
  go_loopw [4] (fun i wr => ∃ k : Nat, k ≤ n ∧ i = .int .i64 k ∧ wr.rowIs w.heap.size 9 n (copS l k) ∧ Below w.heap.size w wr) (fun i _ => n - (intOf i).toNat)
  case atStart => exact ⟨0, by omega, rfl, (World.rowIs_made w (.string { data := #[] }) n 9).congr (fun i _ => by unfold copS; rw [if_neg (by omega)]), (Below.refl _ _).alloc (Nat.le_refl _) _⟩
  case round =>
    obtain ⟨k, hk, rfl, HR, hbel⟩ := hrel
    by_cases hlt : k < n
    · have hkl : k < l.length := by rw [HL.out]; exact hlt
      obtain ⟨y, hy, hb, hc⟩ := HRd.out.at_ (sv_at l k hkl)
      injection hy with hy; subst hy
      have cx := (hbel.cell (p := x.add k) (by rw [add_block]; exact hb)).trans hc
      have cw := HR.cell (i := k) hlt
      have fw := HR.frozen k
      have R2 := Lib.hid ((HR.set k _).congr (fun i _ => copS_step l k _ (sv_at l k hkl) i))
      have B2 := Lib.hid (hbel.setCell (p := ⟨w.heap.size, k, none⟩) (Nat.le_refl _) (.string l[k]))
      obtain ⟨q, hq⟩ : ∃ q, q = l[k] := ⟨_, rfl⟩
      rw [← hq] at cx R2 B2
      clear HR hbel hq hb hc
      go_wp2
      go_roundw
      case rel => exact ⟨k + 1, by omega, by go_num, R2.out, B2.out⟩
      case measure => simp [intOf]; omega
    · have hkn : k = n := by omega
      subst hkn
      have R2 := Lib.hid HR
      have B2 := Lib.hid hbel
      clear HR hbel
      go_wp2
      go_ret
      refine ⟨rfl, ?_, B2.out⟩
      have e1 : (sv l).length = k := by rw [sv_len, HL.out]
      refine Own.of_row (R2.out) e1 (fun i hi => ?_) (Nat.le_refl _) (by unfold maxLen; omega)
      unfold copS
      rw [if_pos hi, List.getD_eq_getElem?_getD, List.getElem?_eq_getElem (by omega)]; rfl
def ClS (n : Nat) (l : List ByteArray) (w : World) (e : Ending) (w' : World) : Prop := ∃ A' c', e = .returned (.slice A' n c') ∧ Own w' w.heap.size 9 (.slice A' n c') (sv l) ∧ Below w.heap.size w w'
theorem cloneS (A : Option Addr) (n c : Nat) (l : List ByteArray) (w : World) (hl : l.length = n) (hn : n ≤ 4096) (hnil : A = none → n = 0 ∧ c = 0) (hr : Rd w w.heap.size A (sv l)) : Calls Tryz.prog 6 #[.slice A n c] w (ClS n l w) := by
  rcases A with _ | x
  · obtain ⟨rfl, rfl⟩ := hnil rfl
    obtain rfl : l = [] := List.eq_nil_of_length_eq_zero hl
    refine (cloneS_nil w).mono ?_
    rintro e w' ⟨rfl, rfl⟩
    exact ⟨none, 0, rfl, Own.nil _ _ _, Below.refl _ _⟩
  · refine (cloneS_some x n c l w hl hn hr).mono ?_
    rintro e w' ⟨rfl, h1, h2⟩
    exact ⟨_, _, rfl, h1, h2⟩
theorem sum_any (A : Option Addr) (n c : Nat) (l : List ByteArray) (w : World) (hl : l.length = n) (hn : n + tot l ≤ 1048576) (hr : Rd w w.heap.size A (sv l)) :
    Calls Tryz.prog 5 #[.slice A n c] w fun e w' => e = .returned (.int .i64 ((8 * n + tot l : Nat) : Int)) ∧ w = w' := by
  have HL := Lib.hid hl; have HR := Lib.hid hr
  clear hl hr
  have hn1 : n ≤ 1048576 := by omega
  obtain ⟨T, hT⟩ : ∃ T, T = tot l := ⟨_, rfl⟩
  rw [← hT] at hn ⊢
  have HT := Lib.hid hT
  clear hT
  go_enter Tryz.func5, Tryz.ntmps5
  go_wp2
  go_loop [3, 4] (fun z i => ∃ k m : Nat, k ≤ n ∧ m ≤ 16777216 ∧ i = .int .i64 k ∧ z = .int .i64 m ∧ Hid (m = 8 * n + tot (l.take k))) (fun _ i => n - (intOf i).toNat)
  case atStart => exact ⟨0, 8 * n, by omega, by omega, rfl, by go_num, Lib.hid rfl⟩
  case round =>
    obtain ⟨k, m, hk, hm, rfl, rfl, E⟩ := hrel
    by_cases hlt : k < n
    · have hkl : k < l.length := by rw [HL.out]; exact hlt
      obtain ⟨x, rfl, hxb, cx⟩ := HR.out.at_ (sv_at l k hkl)
      have TS := Lib.hid (tot_step l k hkl)
      have hz : l[k].size ≤ 1048576 ∧ m + l[k].size ≤ 16777216 := by
        have := TS.out; have := tot_le l (k + 1); have := HT.out; have := E.out; omega
      obtain ⟨s, hs⟩ : ∃ s, s = l[k] := ⟨_, rfl⟩
      rw [← hs] at cx hz
      have HS := Lib.hid hs
      obtain ⟨hz1, hz2⟩ := hz
      clear hs
      go_wp2
      go_round
      case rel => exact ⟨k + 1, m + s.size, by omega, by omega, by go_num, by go_num, Lib.hid (by have := E.out; have := TS.out; rw [← HS.out] at this; omega)⟩
      case measure => simp [intOf]; omega
    · obtain rfl : k = n := by omega
      have e : m = 8 * k + T := by
        have := E.out; rw [List.take_of_length_le (by rw [HL.out]; omega)] at this; rw [this, HT.out]
      have EE := Lib.hid e
      clear e
      go_wp2
      go_ret
      exact ⟨ret_int (by have := EE.out; omega), rfl⟩
end Go.Proofs.YtlmkgghfnfhojaaGreatDoor.Fda
