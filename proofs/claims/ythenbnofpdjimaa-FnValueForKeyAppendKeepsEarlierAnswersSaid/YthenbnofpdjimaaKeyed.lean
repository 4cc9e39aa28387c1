/- zzKeyed by its contract: it returns a new slice of entries, one for each key, with the key and the decimal number of its place. Condition: at most 65536 keys. -/
import Derived.Test.YthenbnofpdjimaaItoa
import Derived.Laws.MakeOwn
import Derived.Deep.QuietTactic
import Derived.BigQuiet
import Derived.Deep.RegionHeld3
namespace Go.Proofs.Ythenbnofpdjimaa.Keyed
open Go.ChangeShapes Go.WideShapes Go.ChangeAt Go.RowKit Go.Deep Go.Proofs.Ythenbnofpdjimaa.Base Go.Proofs.Ythenbnofpdjimaa.Itoa
set_option linter.unusedVariables false

/-! ### PLAIN: the cells of a row of entries, ten cells each -/
def fld (key str : ByteArray) (kind : Int) : Nat → Value
  | 0 => .string key
  | 1 => .string str
  | 2 => .slice none 0 0
  | 3 => .slice none 0 0
  | 4 => .slice none 0 0
  | 5 => .int .i32 0
  | 6 => .int .i32 0
  | 7 => .int .u8 kind
  | _ => .int .i32 0
def ents (ks : Nat → ByteArray) (k c : Nat) : Value := if c / 10 < k then fld (ks (c / 10)) (itoa (c / 10)) 1 (c % 10) else fld { data := #[] } { data := #[] } 0 (c % 10)
theorem row_keep {w w' : World} {B b t n : Nat} {f : Nat → Value} (h : w.rowIs b t n f) (hb : Below B w w') (hB : w.heap.size ≤ B) : w'.rowIs b t n f := h.of_block (hb.block b (Nat.lt_of_lt_of_le h.lt hB))
theorem ten_below (w : World) (B k : Nat) (v0 v1 v2 v3 v4 v5 v6 v7 v8 v9 : Value) : Below B w ((((((((((w.setCell ⟨B, k * 10, none⟩ v0).setCell ⟨B, k * 10 + 1, none⟩ v1).setCell ⟨B, k * 10 + 2, none⟩ v2).setCell ⟨B, k * 10 + 3, none⟩ v3).setCell ⟨B, k * 10 + 4, none⟩ v4).setCell ⟨B, k * 10 + 5, none⟩ v5).setCell ⟨B, k * 10 + 6, none⟩ v6).setCell ⟨B, k * 10 + 7, none⟩ v7).setCell ⟨B, k * 10 + 8, none⟩ v8).setCell ⟨B, k * 10 + 9, none⟩ v9) :=
  ((((((((((Below.refl B w).setCell (Nat.le_refl _) _).setCell (Nat.le_refl _) _).setCell (Nat.le_refl _) _).setCell (Nat.le_refl _) _).setCell (Nat.le_refl _) _).setCell (Nat.le_refl _) _).setCell (Nat.le_refl _) _).setCell (Nat.le_refl _) _).setCell (Nat.le_refl _) _).setCell (Nat.le_refl _) _
theorem ten_cell (w : World) (B k : Nat) (v0 v1 v2 v3 v4 v5 v6 v7 v8 v9 : Value) (b o : Nat) (h : b < B) : ((((((((((w.setCell ⟨B, k * 10, none⟩ v0).setCell ⟨B, k * 10 + 1, none⟩ v1).setCell ⟨B, k * 10 + 2, none⟩ v2).setCell ⟨B, k * 10 + 3, none⟩ v3).setCell ⟨B, k * 10 + 4, none⟩ v4).setCell ⟨B, k * 10 + 5, none⟩ v5).setCell ⟨B, k * 10 + 6, none⟩ v6).setCell ⟨B, k * 10 + 7, none⟩ v7).setCell ⟨B, k * 10 + 8, none⟩ v8).setCell ⟨B, k * 10 + 9, none⟩ v9).cell? ⟨b, o, none⟩ = w.cell? ⟨b, o, none⟩ := bcell (ten_below w B k v0 v1 v2 v3 v4 v5 v6 v7 v8 v9) h o
def put10 (k : Nat) (v0 v1 v2 v3 v4 v5 v6 v7 v8 v9 : Value) (f : Nat → Value) (i : Nat) : Value := if i = k * 10 + 9 then v9 else if i = k * 10 + 8 then v8 else if i = k * 10 + 7 then v7 else if i = k * 10 + 6 then v6 else if i = k * 10 + 5 then v5 else if i = k * 10 + 4 then v4 else if i = k * 10 + 3 then v3 else if i = k * 10 + 2 then v2 else if i = k * 10 + 1 then v1 else if i = k * 10 then v0 else f i
theorem ten_row (w : World) (B k t n : Nat) (f : Nat → Value) (v0 v1 v2 v3 v4 v5 v6 v7 v8 v9 : Value) (h : w.rowIs B t n f) : ((((((((((w.setCell ⟨B, k * 10, none⟩ v0).setCell ⟨B, k * 10 + 1, none⟩ v1).setCell ⟨B, k * 10 + 2, none⟩ v2).setCell ⟨B, k * 10 + 3, none⟩ v3).setCell ⟨B, k * 10 + 4, none⟩ v4).setCell ⟨B, k * 10 + 5, none⟩ v5).setCell ⟨B, k * 10 + 6, none⟩ v6).setCell ⟨B, k * 10 + 7, none⟩ v7).setCell ⟨B, k * 10 + 8, none⟩ v8).setCell ⟨B, k * 10 + 9, none⟩ v9).rowIs B t n (put10 k v0 v1 v2 v3 v4 v5 v6 v7 v8 v9 f) :=
  (((((((((h.set _ _).set _ _).set _ _).set _ _).set _ _).set _ _).set _ _).set _ _).set _ _).set _ _
theorem put_in (k r : Nat) (v0 v1 v2 v3 v4 v5 v6 v7 v8 v9 : Value) (f : Nat → Value) (hr : r < 10) : put10 k v0 v1 v2 v3 v4 v5 v6 v7 v8 v9 f (k * 10 + r) = [v0, v1, v2, v3, v4, v5, v6, v7, v8, v9].getD r (.bool false) := by
  unfold put10
  rcases (show r = 0 ∨ r = 1 ∨ r = 2 ∨ r = 3 ∨ r = 4 ∨ r = 5 ∨ r = 6 ∨ r = 7 ∨ r = 8 ∨ r = 9 by omega) with rfl | rfl | rfl | rfl | rfl | rfl | rfl | rfl | rfl | rfl <;> simp
theorem put_out (k i : Nat) (v0 v1 v2 v3 v4 v5 v6 v7 v8 v9 : Value) (f : Nat → Value) (hi : i / 10 ≠ k) : put10 k v0 v1 v2 v3 v4 v5 v6 v7 v8 v9 f i = f i := by
  unfold put10
  repeat rw [if_neg (by omega)]
theorem ents_step (ks : Nat → ByteArray) (k i : Nat) : put10 k (.string (ks k)) (.string (itoa k)) (.slice none 0 0) (.slice none 0 0) (.slice none 0 0) (.int .i32 0) (.int .i32 0) (.int .u8 1) (.int .i32 0) (.int .i32 0) (ents ks k) i = ents ks (k + 1) i := by
  by_cases h : i / 10 = k
  · obtain ⟨r, hr, rfl⟩ : ∃ r, r < 10 ∧ i = k * 10 + r := ⟨i % 10, by omega, by omega⟩
    rw [put_in _ _ _ _ _ _ _ _ _ _ _ _ _ hr]
    unfold ents
    have e1 : (k * 10 + r) / 10 = k := by omega
    have e2 : (k * 10 + r) % 10 = r := by omega
    rw [e1, e2, if_pos (by omega)]
    rcases (show r = 0 ∨ r = 1 ∨ r = 2 ∨ r = 3 ∨ r = 4 ∨ r = 5 ∨ r = 6 ∨ r = 7 ∨ r = 8 ∨ r = 9 by omega) with rfl | rfl | rfl | rfl | rfl | rfl | rfl | rfl | rfl | rfl <;> rfl
  · rw [put_out _ _ _ _ _ _ _ _ _ _ _ _ _ h]
    unfold ents
    by_cases h2 : i / 10 < k
    · rw [if_pos h2, if_pos (by omega)]
    · rw [if_neg h2, if_neg (by omega)]
theorem zero_cells (ks : Nat → ByteArray) (n i : Nat) (h : i < n) : (madeCells #[.string { data := #[] }, .string { data := #[] }, .slice none 0 0, .slice none 0 0, .slice none 0 0, .int .i32 0, .int .i32 0, .int .u8 0, .int .i32 0, .int .i32 0] n)[i]? = some (ents ks 0 i) := by
  unfold madeCells
  rw [Array.getElem?_map, Array.getElem?_range, if_pos h]
  unfold ents
  rw [if_neg (by omega)]
  show some _ = some _
  have hr : i % 10 < 10 := by omega
  show some (_[i % 10]!) = _
  generalize i % 10 = r at hr
  rcases (show r = 0 ∨ r = 1 ∨ r = 2 ∨ r = 3 ∨ r = 4 ∨ r = 5 ∨ r = 6 ∨ r = 7 ∨ r = 8 ∨ r = 9 by omega) with rfl | rfl | rfl | rfl | rfl | rfl | rfl | rfl | rfl | rfl <;> rfl

/-! ### THE WALKS -/
theorem info49 : (Try.prog.info? 49).map (fun i => (i.zero, i.size, i.bytes)) = some (some (.agg #[.string { data := #[] }, .string { data := #[] }, .slice none 0 0, .slice none 0 0, .slice none 0 0, .int .i32 0, .int .i32 0, .int .u8 0, .int .i32 0, .int .i32 0]), 10, 128) := by kernel_rfl
theorem strEntry (s : ByteArray) (w : World) :
    Calls Try.prog 22 #[.string s] w fun e w' => e = .returned (.agg #[.string s, .slice none 0 0, .slice none 0 0, .slice none 0 0, .int .i32 0, .int .i32 0, .int .u8 1]) ∧ Below w.heap.size w w' := by
  go_enter Try.func22, Try.ntmps22
  go_wp2
  go_returns
  exact ⟨rfl, (Below.refl _ _).alloc (Nat.le_refl _) _⟩
theorem mapEntry (k s : ByteArray) (w : World) :
    Calls Try.prog 21 #[.string k, .agg #[.string s, .slice none 0 0, .slice none 0 0, .slice none 0 0, .int .i32 0, .int .i32 0, .int .u8 1]] w fun e w' => e = .returned (.agg #[.string k, .string s, .slice none 0 0, .slice none 0 0, .slice none 0 0, .int .i32 0, .int .i32 0, .int .u8 1, .int .i32 0, .int .i32 0]) ∧ Below w.heap.size w w' := by
  go_enter Try.func21, Try.ntmps21
  go_wp2
  go_returns
  exact ⟨rfl, by go_grown⟩
theorem make_any (len : Nat) (h : len ≤ 65536) (w : World) : (Instr.makeSlice 23 (.int .i64 (len : Int)) (.int .i64 (len : Int))).run Try.prog w = .ok (.slice (some ⟨w.heap.size, 0, none⟩) len len) (w.alloc (.cells (madeCells #[.string { data := #[] }, .string { data := #[] }, .slice none 0 0, .slice none 0 0, .slice none 0 0, .int .i32 0, .int .i32 0, .int .u8 0, .int .i32 0, .int .i32 0] (len * 10)) 49)) := by
  obtain ⟨i0, hi, hz0, hz1, hz2⟩ := info_parts info49
  have := run_make (P := Try.prog) w 23 49 i0 _ Try.underlying23 hi hz0 .i64 .i64 len len (by omega) (by omega) (by rw [hz2]; omega) (by omega)
  rw [hz1] at this
  exact this
set_option maxHeartbeats 1000000 in
theorem keyed (a : Option Addr) (len cap : Nat) (w : World) (h : len ≤ 65536) (ks : Nat → ByteArray) (ha : 0 < len → ∃ b o, a = some ⟨b, o, none⟩ ∧ b < w.heap.size ∧ ∀ i, i < len → w.cell? ⟨b, o + i, none⟩ = some (.string (ks i))) :
    Calls Try.prog 7 #[.slice a len cap] w fun e w' => e = .returned (.slice (some ⟨w.heap.size, 0, none⟩) len len) ∧ w'.rowIs w.heap.size 49 (len * 10) (ents ks len) ∧ Below w.heap.size w w' := by
  have hmk := make_any len h
  have HA := Lib.hid ha; clear ha
  go_enter Try.func7, Try.ntmps7
  go_wp2
  clear hmk
  go_loopw [4] (fun i wr => ∃ k : Nat, k ≤ len ∧ i = .int .i64 k ∧ wr.rowIs w.heap.size 49 (len * 10) (ents ks k) ∧ Below w.heap.size w wr) (fun i _ => len - (intOf i).toNat)
  case atStart =>
    refine ⟨0, by omega, rfl, ?_, (Below.refl _ _).alloc (Nat.le_refl _) _⟩
    have := World.rowIs_alloc w (madeCells #[.string { data := #[] }, .string { data := #[] }, .slice none 0 0, .slice none 0 0, .slice none 0 0, .int .i32 0, .int .i32 0, .int .u8 0, .int .i32 0, .int .i32 0] (len * 10)) 49 (ents ks 0) (fun i hi => zero_cells ks _ i (by rw [size_madeCells] at hi; exact hi))
    rw [size_madeCells] at this
    exact this
  case round =>
    obtain ⟨k, hk, rfl, HR, hbel⟩ := hrel
    by_cases hlt : k < len
    · obtain ⟨b, o, rfl, hb, hc⟩ := HA.out (by omega)
      have ck : wr.cell? ⟨b, o + k, none⟩ = some (.string (ks k)) := by rw [bcell hbel hb]; exact hc k hlt
      have hbz : b < wr.heap.size := Nat.lt_of_lt_of_le hb hbel.size
      have hwz := hbel.size
      have x1 : (0 : Int) ≤ (k : Int) := by omega
      have x2 : (k : Int) < (len : Int) := by omega
      clear hc
      go_wp2
      go_region_held3 (fun w' => w'.cell? ⟨b, o + k, none⟩ = some (.string (ks k)))
        (first | go_keep | (rw [bcell hb1 (by simp; omega)]; assumption) | (rw [bcell hb2 (by have := hb1.size; simp at this ⊢; omega)]; assumption) | (rw [bcell hb3 (by have := hb1.size; have := hb2.size; simp at *; omega)]; assumption) | (rw [ten_cell _ _ _ _ _ _ _ _ _ _ _ _ _ _ _ hb]; assumption))
        ((first | (go_at_call 23; refine (itoa_any _ _ (by omega)).mono ?_; rintro e w1 ⟨rfl, hb1⟩) | (go_at_call 22; refine (strEntry _ _).mono ?_; rintro e w2 ⟨rfl, hb2⟩) | (go_at_call 21; refine (mapEntry _ _ _).mono ?_; rintro e w3 ⟨rfl, hb3⟩; have HR3 := row_keep (row_keep (row_keep HR.drew hb1 (by simp)) hb2 (by simp)) hb3 (by simp); have c0 := HR3.cell (i := k * 10) (by omega); have c1 := HR3.cell (i := k * 10 + 1) (by omega); have c2 := HR3.cell (i := k * 10 + 2) (by omega); have c3 := HR3.cell (i := k * 10 + 3) (by omega); have c4 := HR3.cell (i := k * 10 + 4) (by omega); have c5 := HR3.cell (i := k * 10 + 5) (by omega); have c6 := HR3.cell (i := k * 10 + 6) (by omega); have c7 := HR3.cell (i := k * 10 + 7) (by omega); have c8 := HR3.cell (i := k * 10 + 8) (by omega); have c9 := HR3.cell (i := k * 10 + 9) (by omega); have f0 := HR3.frozen (k * 10); have f1 := HR3.frozen (k * 10 + 1); have f2 := HR3.frozen (k * 10 + 2); have f3 := HR3.frozen (k * 10 + 3); have f4 := HR3.frozen (k * 10 + 4); have f5 := HR3.frozen (k * 10 + 5); have f6 := HR3.frozen (k * 10 + 6); have f7 := HR3.frozen (k * 10 + 7); have f8 := HR3.frozen (k * 10 + 8); have f9 := HR3.frozen (k * 10 + 9); have HR4 := Lib.hid HR3; clear HR3)))
      have T1 := Lib.hid ((ten_row w3 w.heap.size k 49 (len * 10) _ (.string (ks k)) (.string (itoa k)) (.slice none 0 0) (.slice none 0 0) (.slice none 0 0) (.int .i32 0) (.int .i32 0) (.int .u8 1) (.int .i32 0) (.int .i32 0) HR4.out).congr (fun i _ => ents_step ks k i))
      have T2 := Lib.hid ((below_join (below_join (below_join (hbel.drew) (by simpa using hwz) hb1) (by have := hb1.size; simp at this; omega) hb2) (by have := hb1.size; have := hb2.size; simp at *; omega) hb3).trans (ten_below w3 w.heap.size k (.string (ks k)) (.string (itoa k)) (.slice none 0 0) (.slice none 0 0) (.slice none 0 0) (.int .i32 0) (.int .i32 0) (.int .u8 1) (.int .i32 0) (.int .i32 0)))
      clear c0 c1 c2 c3 c4 c5 c6 c7 c8 c9 f0 f1 f2 f3 f4 f5 f6 f7 f8 f9 HR hbel hb1 hb2 hb3 HR4 ck
      go_wp2
      go_roundw
      case rel => exact ⟨k + 1, by omega, by go_num, T1.out, T2.out⟩
      case measure => simp [intOf]; omega
    · have hkl : k = len := by omega
      subst hkl
      have T1 := Lib.hid HR
      have T2 := Lib.hid hbel
      clear HR hbel
      go_wp2
      go_ret
      exact ⟨rfl, T1.out, T2.out⟩
end Go.Proofs.Ythenbnofpdjimaa.Keyed
