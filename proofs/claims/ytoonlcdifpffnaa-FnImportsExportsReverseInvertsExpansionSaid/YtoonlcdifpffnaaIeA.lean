/- A flat object of string values, by its contract: one entry of ten cells for each key; the token of the place begins at place + 1. Conditions: at most 65537 entries. -/
import Derived.Test.YtoonlcdifpffnaaBase
import Derived.Test.YtoonlcdifpffnaaProg
import Derived.Test.YtoonlcdifpffnaaSls
import Derived.WalkSpells
import Derived.WalkLawsBesides
import Derived.Laws.MakeOwn
import Derived.Deep.QuietTactic
import Derived.BigQuiet
import Derived.Deep.RegionHeld3
import Derived.Deep.OwnRows
import Derived.Deep.DrawnRows
import Derived.Laws.Tables
import Derived.Handy
namespace Go.Proofs.Ytoonlcdifpffnaa.IeA
open Go.RowKit Go.Deep Go.Proofs.Ytoonlcdifpffnaa.Base Go.Proofs.Ytoonlcdifpffnaa.Sls
set_option linter.unusedVariables false
attribute [local go_sem ↓] Go.wp_at_zero Go.wp_at_succ
def fldt (key str : ByteArray) (st ln kind : Int) : Nat → Value
  | 0 => .string key
  | 1 => .string str
  | 2 => .slice none 0 0
  | 3 => .slice none 0 0
  | 4 => .slice none 0 0
  | 5 => .int .i32 st
  | 6 => .int .i32 ln
  | 7 => .int .u8 kind
  | _ => .int .i32 0
def entt (ks vs : Nat → ByteArray) (lf : Nat → Int) (k c : Nat) : Value := if c / 10 < k then fldt (ks (c / 10)) (vs (c / 10)) ((c / 10 : Nat) + 1) (lf (c / 10)) 1 (c % 10) else fldt { data := #[] } { data := #[] } 0 0 0 (c % 10)
theorem row_keep {w w' : World} {B b t n : Nat} {f : Nat → Value} (h : w.rowIs b t n f) (hb : Below B w w') (hB : w.heap.size ≤ B) : w'.rowIs b t n f := h.of_block (hb.block b (Nat.lt_of_lt_of_le h.lt hB))
theorem ten_below (w : World) (B k : Nat) (v0 v1 v2 v3 v4 v5 v6 v7 v8 v9 : Value) : Below B w ((((((((((w.setCell ⟨B, k * 10, none⟩ v0).setCell ⟨B, k * 10 + 1, none⟩ v1).setCell ⟨B, k * 10 + 2, none⟩ v2).setCell ⟨B, k * 10 + 3, none⟩ v3).setCell ⟨B, k * 10 + 4, none⟩ v4).setCell ⟨B, k * 10 + 5, none⟩ v5).setCell ⟨B, k * 10 + 6, none⟩ v6).setCell ⟨B, k * 10 + 7, none⟩ v7).setCell ⟨B, k * 10 + 8, none⟩ v8).setCell ⟨B, k * 10 + 9, none⟩ v9) :=
  ((((((((((Below.refl B w).setCell (Nat.le_refl _) _).setCell (Nat.le_refl _) _).setCell (Nat.le_refl _) _).setCell (Nat.le_refl _) _).setCell (Nat.le_refl _) _).setCell (Nat.le_refl _) _).setCell (Nat.le_refl _) _).setCell (Nat.le_refl _) _).setCell (Nat.le_refl _) _).setCell (Nat.le_refl _) _
theorem ten_cell (w : World) (B k : Nat) (v0 v1 v2 v3 v4 v5 v6 v7 v8 v9 : Value) (b o : Nat) (h : b < B) : ((((((((((w.setCell ⟨B, k * 10, none⟩ v0).setCell ⟨B, k * 10 + 1, none⟩ v1).setCell ⟨B, k * 10 + 2, none⟩ v2).setCell ⟨B, k * 10 + 3, none⟩ v3).setCell ⟨B, k * 10 + 4, none⟩ v4).setCell ⟨B, k * 10 + 5, none⟩ v5).setCell ⟨B, k * 10 + 6, none⟩ v6).setCell ⟨B, k * 10 + 7, none⟩ v7).setCell ⟨B, k * 10 + 8, none⟩ v8).setCell ⟨B, k * 10 + 9, none⟩ v9).cell? ⟨b, o, none⟩ = w.cell? ⟨b, o, none⟩ := bcell (ten_below w B k v0 v1 v2 v3 v4 v5 v6 v7 v8 v9) h o
def put10 (k : Nat) (v0 v1 v2 v3 v4 v5 v6 v7 v8 v9 : Value) (f : Nat → Value) (i : Nat) : Value := if i = k * 10 + 9 then v9 else if i = k * 10 + 8 then v8 else if i = k * 10 + 7 then v7 else if i = k * 10 + 6 then v6 else if i = k * 10 + 5 then v5 else if i = k * 10 + 4 then v4 else if i = k * 10 + 3 then v3 else if i = k * 10 + 2 then v2 else if i = k * 10 + 1 then v1 else if i = k * 10 then v0 else f i
theorem ten_row (w : World) (B k t n : Nat) (f : Nat → Value) (v0 v1 v2 v3 v4 v5 v6 v7 v8 v9 : Value) (h : w.rowIs B t n f) : ((((((((((w.setCell ⟨B, k * 10, none⟩ v0).setCell ⟨B, k * 10 + 1, none⟩ v1).setCell ⟨B, k * 10 + 2, none⟩ v2).setCell ⟨B, k * 10 + 3, none⟩ v3).setCell ⟨B, k * 10 + 4, none⟩ v4).setCell ⟨B, k * 10 + 5, none⟩ v5).setCell ⟨B, k * 10 + 6, none⟩ v6).setCell ⟨B, k * 10 + 7, none⟩ v7).setCell ⟨B, k * 10 + 8, none⟩ v8).setCell ⟨B, k * 10 + 9, none⟩ v9).rowIs B t n (put10 k v0 v1 v2 v3 v4 v5 v6 v7 v8 v9 f) :=
  (((((((((h.set _ _).set _ _).set _ _).set _ _).set _ _).set _ _).set _ _).set _ _).set _ _).set _ _
theorem put_in (k r : Nat) (v0 v1 v2 v3 v4 v5 v6 v7 v8 v9 : Value) (f : Nat → Value) (hr : r < 10) : put10 k v0 v1 v2 v3 v4 v5 v6 v7 v8 v9 f (k * 10 + r) = [v0, v1, v2, v3, v4, v5, v6, v7, v8, v9].getD r (.bool false) := by
  unfold put10
  rcases (show r = 0 ∨ r = 1 ∨ r = 2 ∨ r = 3 ∨ r = 4 ∨ r = 5 ∨ r = 6 ∨ r = 7 ∨ r = 8 ∨ r = 9 by omega) with rfl | rfl | rfl | rfl | rfl | rfl | rfl | rfl | rfl | rfl <;> simp
theorem put_out (k i : Nat) (v0 v1 v2 v3 v4 v5 v6 v7 v8 v9 : Value) (f : Nat → Value) (hi : i / 10 ≠ k) : put10 k v0 v1 v2 v3 v4 v5 v6 v7 v8 v9 f i = f i := by
  unfold put10
  repeat rw [if_neg (by omega)]
theorem entt_step (ks vs : Nat → ByteArray) (lf : Nat → Int) (k i : Nat) : put10 k (.string (ks k)) (.string (vs k)) (.slice none 0 0) (.slice none 0 0) (.slice none 0 0) (.int .i32 ((k : Nat) + 1)) (.int .i32 (lf k)) (.int .u8 1) (.int .i32 0) (.int .i32 0) (entt ks vs lf k) i = entt ks vs lf (k + 1) i := by
  by_cases h : i / 10 = k
  · obtain ⟨r, hr, rfl⟩ : ∃ r, r < 10 ∧ i = k * 10 + r := ⟨i % 10, by omega, by omega⟩
    rw [put_in _ _ _ _ _ _ _ _ _ _ _ _ _ hr]
    unfold entt
    have e1 : (k * 10 + r) / 10 = k := by omega
    have e2 : (k * 10 + r) % 10 = r := by omega
    rw [e1, e2, if_pos (by omega)]
    rcases (show r = 0 ∨ r = 1 ∨ r = 2 ∨ r = 3 ∨ r = 4 ∨ r = 5 ∨ r = 6 ∨ r = 7 ∨ r = 8 ∨ r = 9 by omega) with rfl | rfl | rfl | rfl | rfl | rfl | rfl | rfl | rfl | rfl <;> rfl
  · rw [put_out _ _ _ _ _ _ _ _ _ _ _ _ _ h]
    unfold entt
    by_cases h2 : i / 10 < k
    · rw [if_pos h2, if_pos (by omega)]
    · rw [if_neg h2, if_neg (by omega)]
theorem zero_cellt (ks vs : Nat → ByteArray) (lf : Nat → Int) (n i : Nat) (h : i < n) : (madeCells #[.string { data := #[] }, .string { data := #[] }, .slice none 0 0, .slice none 0 0, .slice none 0 0, .int .i32 0, .int .i32 0, .int .u8 0, .int .i32 0, .int .i32 0] n)[i]? = some (entt ks vs lf 0 i) := by
  unfold madeCells
  rw [Array.getElem?_map, Array.getElem?_range, if_pos h]
  unfold entt
  rw [if_neg (by omega)]
  show some _ = some _
  have hr : i % 10 < 10 := by omega
  show some (_[i % 10]!) = _
  generalize i % 10 = r at hr
  rcases (show r = 0 ∨ r = 1 ∨ r = 2 ∨ r = 3 ∨ r = 4 ∨ r = 5 ∨ r = 6 ∨ r = 7 ∨ r = 8 ∨ r = 9 by omega) with rfl | rfl | rfl | rfl | rfl | rfl | rfl | rfl | rfl | rfl <;> rfl
theorem entt_at (ks vs : Nat → ByteArray) (lf : Nat → Int) (n p r : Nat) (hp : p < n) (hr : r < 10) : entt ks vs lf n (p * 10 + r) = fldt (ks p) (vs p) ((p : Nat) + 1) (lf p) 1 r := by
  unfold entt
  have e1 : (p * 10 + r) / 10 = p := by omega
  have e2 : (p * 10 + r) % 10 = r := by omega
  rw [e1, e2, if_pos hp]
def nil7 : Nat → Value
  | 0 => .string { data := #[] }
  | 1 => .slice none 0 0
  | 2 => .slice none 0 0
  | 3 => .slice none 0 0
  | 4 => .int .i32 0
  | 5 => .int .i32 0
  | _ => .int .u8 0
theorem row7 (w : World) : (w.alloc (.cells #[.string { data := #[] }, .slice none 0 0, .slice none 0 0, .slice none 0 0, .int .i32 0, .int .i32 0, .int .u8 0] 34)).rowIs w.heap.size 34 7 nil7 :=
  World.rowIs_alloc w #[.string { data := #[] }, .slice none 0 0, .slice none 0 0, .slice none 0 0, .int .i32 0, .int .i32 0, .int .u8 0] 34 _ (fun i hi => by
    match i, hi with
    | 0, _ => rfl
    | 1, _ => rfl
    | 2, _ => rfl
    | 3, _ => rfl
    | 4, _ => rfl
    | 5, _ => rfl
    | 6, _ => rfl)
theorem row_below {w w' : World} {B b t n : Nat} {f : Nat → Value} (h : w.rowIs b t n f) (hb : Below B w w') (hB : b < B) : w'.rowIs b t n f := h.of_block (hb.block b hB)
theorem info43 : (Try.prog.info? 43).map (fun i => (i.zero, i.size, i.bytes)) = some (some (.agg #[.string { data := #[] }, .string { data := #[] }, .slice none 0 0, .slice none 0 0, .slice none 0 0, .int .i32 0, .int .i32 0, .int .u8 0, .int .i32 0, .int .i32 0]), 10, 128) := by kernel_rfl
theorem make_more (len : Nat) (h : len ≤ 65537) (w : World) : (Instr.makeSlice 26 (.int .i64 (len : Int)) (.int .i64 (len : Int))).run Try.prog w = .ok (.slice (some ⟨w.heap.size, 0, none⟩) len len) (w.alloc (.cells (madeCells #[.string { data := #[] }, .string { data := #[] }, .slice none 0 0, .slice none 0 0, .slice none 0 0, .int .i32 0, .int .i32 0, .int .u8 0, .int .i32 0, .int .i32 0] (len * 10)) 43)) := by
  obtain ⟨i0, hi, hz0, hz1, hz2⟩ := info_parts info43
  have := run_make (P := Try.prog) w 26 43 i0 _ Try.underlying26 hi hz0 .i64 .i64 len len (by omega) (by omega) (by rw [hz2]; omega) (by omega)
  rw [hz1] at this
  exact this
def sev (v0 v1 v2 v3 v4 v5 v6 : Value) : Nat → Value
  | 0 => v0
  | 1 => v1
  | 2 => v2
  | 3 => v3
  | 4 => v4
  | 5 => v5
  | _ => v6
theorem seven_row (w : World) (B t : Nat) (f : Nat → Value) (v0 v1 v2 v3 v4 v5 v6 : Value) (h : w.rowIs B t 7 f) : (((((((w.setCell ⟨B, 0, none⟩ v0).setCell ⟨B, 1, none⟩ v1).setCell ⟨B, 2, none⟩ v2).setCell ⟨B, 3, none⟩ v3).setCell ⟨B, 4, none⟩ v4).setCell ⟨B, 5, none⟩ v5).setCell ⟨B, 6, none⟩ v6).rowIs B t 7 (sev v0 v1 v2 v3 v4 v5 v6) :=
  (((((((h.set _ _).set _ _).set _ _).set _ _).set _ _).set _ _).set _ _).congr (fun i hi => by
    match i, hi with
    | 0, _ => rfl
    | 1, _ => rfl
    | 2, _ => rfl
    | 3, _ => rfl
    | 4, _ => rfl
    | 5, _ => rfl
    | 6, _ => rfl)
theorem seven_below (w : World) (B : Nat) (v0 v1 v2 v3 v4 v5 v6 : Value) : Below B w (((((((w.setCell ⟨B, 0, none⟩ v0).setCell ⟨B, 1, none⟩ v1).setCell ⟨B, 2, none⟩ v2).setCell ⟨B, 3, none⟩ v3).setCell ⟨B, 4, none⟩ v4).setCell ⟨B, 5, none⟩ v5).setCell ⟨B, 6, none⟩ v6) :=
  (((((((Below.refl B w).setCell (Nat.le_refl _) _).setCell (Nat.le_refl _) _).setCell (Nat.le_refl _) _).setCell (Nat.le_refl _) _).setCell (Nat.le_refl _) _).setCell (Nat.le_refl _) _).setCell (Nat.le_refl _) _
theorem seven_far (w : World) (B b : Nat) (v0 v1 v2 v3 v4 v5 v6 : Value) (t n : Nat) (f : Nat → Value) (h : w.rowIs b t n f) (hne : b ≠ B) : (((((((w.setCell ⟨B, 0, none⟩ v0).setCell ⟨B, 1, none⟩ v1).setCell ⟨B, 2, none⟩ v2).setCell ⟨B, 3, none⟩ v3).setCell ⟨B, 4, none⟩ v4).setCell ⟨B, 5, none⟩ v5).setCell ⟨B, 6, none⟩ v6).rowIs b t n f :=
  ((((((h.setOther hne _).setOther hne _).setOther hne _).setOther hne _).setOther hne _).setOther hne _).setOther hne _
theorem strEntry (s : ByteArray) (st ln : Int) (w : World) :
    Calls Try.prog 15 #[.string s, .int .i32 st, .int .i32 ln] w fun e w' => e = .returned (.agg #[.string s, .slice none 0 0, .slice none 0 0, .slice none 0 0, .int .i32 st, .int .i32 ln, .int .u8 1]) ∧ Below w.heap.size w w' := by
  go_enter Try.func15, Try.ntmps15
  go_wp2
  go_returns
  exact ⟨rfl, (Below.refl _ _).alloc (Nat.le_refl _) _⟩
theorem mapEntry (k s : ByteArray) (st ln : Int) (w : World) :
    Calls Try.prog 14 #[.string k, .agg #[.string s, .slice none 0 0, .slice none 0 0, .slice none 0 0, .int .i32 st, .int .i32 ln, .int .u8 1]] w fun e w' => e = .returned (.agg #[.string k, .string s, .slice none 0 0, .slice none 0 0, .slice none 0 0, .int .i32 st, .int .i32 ln, .int .u8 1, .int .i32 0, .int .i32 0]) ∧ Below w.heap.size w w' := by
  go_enter Try.func14, Try.ntmps14
  go_wp2
  go_returns
  exact ⟨rfl, by go_grown⟩
theorem newObj (v x : Value) (a a' : Option Addr) (l c l' c' : Nat) (hv : v = .slice a l c) (hx : x = .slice a' l' c') (w : World) : Calls Try.prog 16 #[v, x] w fun e w' => e = .returned (.agg #[.string { data := #[] }, .slice none 0 0, v, x, .int .i32 0, .int .i32 0, .int .u8 3]) ∧ Below w.heap.size w w' := by
  subst hv hx
  go_enter Try.func16, Try.ntmps16
  go_wp2
  go_returns
  exact ⟨rfl, (Below.refl _ _).alloc (Nat.le_refl _) _⟩
set_option maxHeartbeats 2000000 in
theorem object_any (a b : Option Addr) (len cap cap' : Nat) (w : World) (h : len ≤ 65537) (ks vs : Nat → ByteArray)
    (ha : 0 < len → ∃ x, a = some x ∧ x.block < w.heap.size ∧ ∀ i, i < len → w.cell? (x.add i) = some (.string (ks i)))
    (hb : 0 < len → ∃ x, b = some x ∧ x.block < w.heap.size ∧ ∀ i, i < len → w.cell? (x.add i) = some (.string (vs i))) :
    Calls Try.prog 8 #[.slice a len cap, .slice b len cap'] w fun e w' => e = .returned (.agg #[.string { data := #[] }, .slice none 0 0, .slice (some ⟨(w.heap.size + 1), 0, none⟩) len len, .slice none 0 0, .int .i32 0, .int .i32 0, .int .u8 3]) ∧ w'.rowIs (w.heap.size + 1) 43 (len * 10) (entt ks vs (fun _ => 1) len) ∧ Below w.heap.size w w' := by
  have hmk := make_more len h
  have HA := Lib.hid ha; have HBb := Lib.hid hb; clear ha hb
  have R0 := Lib.hid (row7 w)
  go_enter Try.func8, Try.ntmps8
  go_wp2
  clear hmk
  go_loopw [6] (fun i wr => ∃ k : Nat, k ≤ len ∧ i = .int .i64 k ∧ wr.rowIs (w.heap.size + 1) 43 (len * 10) (entt ks vs (fun _ => 1) k) ∧ wr.rowIs w.heap.size 34 7 nil7 ∧ Below w.heap.size w wr) (fun i _ => len - (intOf i).toNat)
  case atStart =>
    refine ⟨0, by omega, rfl, ?_, R0.out.alloc _, ((Below.refl _ _).alloc (Nat.le_refl _) _).alloc (by simp) _⟩
    have := World.rowIs_alloc (w.alloc (.cells #[.string { data := #[] }, .slice none 0 0, .slice none 0 0, .slice none 0 0, .int .i32 0, .int .i32 0, .int .u8 0] 34)) (madeCells #[.string { data := #[] }, .string { data := #[] }, .slice none 0 0, .slice none 0 0, .slice none 0 0, .int .i32 0, .int .i32 0, .int .u8 0, .int .i32 0, .int .i32 0] (len * 10)) 43 (entt ks vs (fun _ => 1) 0) (fun i hi => zero_cellt ks vs (fun _ => 1) _ i (by rw [size_madeCells] at hi; exact hi))
    rw [size_madeCells, World.size_alloc] at this
    exact this
  case round =>
    obtain ⟨k, hk, rfl, HR, HR0, hbel⟩ := hrel
    by_cases hlt : k < len
    · obtain ⟨x, rfl, hxb, hxc⟩ := HA.out (by omega)
      obtain ⟨y, rfl, hyb, hyc⟩ := HBb.out (by omega)
      have ck : wr.cell? (x.add k) = some (.string (ks k)) := by rw [hbel.cell (by rw [add_block]; exact hxb)]; exact hxc k hlt
      have cv : wr.cell? (y.add k) = some (.string (vs k)) := by rw [hbel.cell (by rw [add_block]; exact hyb)]; exact hyc k hlt
      have hwz := hbel.size
      have hwg : w.heap.size + 1 < wr.heap.size := HR.lt
      have x1 : (0 : Int) ≤ (k : Int) := by omega
      have x2 : (k : Int) < (len : Int) := by omega
      have acc : Below wr.heap.size wr wr.drew := (Below.refl _ _).drew
      clear hxc hyc
      go_wp2
      go_region_held3 (fun w' => w'.cell? (x.add k) = some (.string (ks k)) ∧ w'.cell? (y.add k) = some (.string (vs k)))
        (first | go_keep | (go_split_ands; refine ⟨?_, ?_⟩ <;> (rw [acc.cell (by rw [add_block]; omega)]; assumption)) | (go_split_ands; refine ⟨?_, ?_⟩ <;> (rw [(ten_below _ _ _ _ _ _ _ _ _ _ _ _ _).cell (by rw [add_block]; omega)]; assumption)))
        ((first | (go_at_call 15; refine (strEntry _ _ _ _).mono ?_; rintro e w2 ⟨rfl, hb2⟩; have acc := below_join acc acc.size hb2; clear hb2) | (go_at_call 14; refine (mapEntry _ _ _ _ _).mono ?_; rintro e w3 ⟨rfl, hb3⟩; have acc := below_join acc acc.size hb3; clear hb3; have HR3 := row_keep HR acc (Nat.le_refl _); have c0 := HR3.cell (i := k * 10) (by omega); have c1 := HR3.cell (i := k * 10 + 1) (by omega); have c2 := HR3.cell (i := k * 10 + 2) (by omega); have c3 := HR3.cell (i := k * 10 + 3) (by omega); have c4 := HR3.cell (i := k * 10 + 4) (by omega); have c5 := HR3.cell (i := k * 10 + 5) (by omega); have c6 := HR3.cell (i := k * 10 + 6) (by omega); have c7 := HR3.cell (i := k * 10 + 7) (by omega); have c8 := HR3.cell (i := k * 10 + 8) (by omega); have c9 := HR3.cell (i := k * 10 + 9) (by omega); have f0 := HR3.frozen (k * 10); have f1 := HR3.frozen (k * 10 + 1); have f2 := HR3.frozen (k * 10 + 2); have f3 := HR3.frozen (k * 10 + 3); have f4 := HR3.frozen (k * 10 + 4); have f5 := HR3.frozen (k * 10 + 5); have f6 := HR3.frozen (k * 10 + 6); have f7 := HR3.frozen (k * 10 + 7); have f8 := HR3.frozen (k * 10 + 8); have f9 := HR3.frozen (k * 10 + 9); have HR4 := Lib.hid HR3; clear HR3)))
      have T1 := Lib.hid ((ten_row w3 (w.heap.size + 1) k 43 (len * 10) _ (.string (ks k)) (.string (vs k)) (.slice none 0 0) (.slice none 0 0) (.slice none 0 0) (.int .i32 ((k : Nat) + 1)) (.int .i32 1) (.int .u8 1) (.int .i32 0) (.int .i32 0) HR4.out).congr (fun i _ => entt_step ks vs (fun _ => 1) k i))
      have T0 := Lib.hid (row_below (row_keep HR0 acc (Nat.le_refl _)) (ten_below w3 (w.heap.size + 1) k (.string (ks k)) (.string (vs k)) (.slice none 0 0) (.slice none 0 0) (.slice none 0 0) (.int .i32 ((k : Nat) + 1)) (.int .i32 1) (.int .u8 1) (.int .i32 0) (.int .i32 0)) (by omega))
      have T2 := Lib.hid ((hbel.trans (acc.mono hwz)).trans ((ten_below w3 (w.heap.size + 1) k (.string (ks k)) (.string (vs k)) (.slice none 0 0) (.slice none 0 0) (.slice none 0 0) (.int .i32 ((k : Nat) + 1)) (.int .i32 1) (.int .u8 1) (.int .i32 0) (.int .i32 0)).mono (by omega)))
      clear c0 c1 c2 c3 c4 c5 c6 c7 c8 c9 f0 f1 f2 f3 f4 f5 f6 f7 f8 f9 HR HR0 hbel acc HR4 ck cv
      go_wp2
      go_roundw
      case rel => exact ⟨k + 1, by omega, by go_num, T1.out, T0.out, T2.out⟩
      case measure => simp [intOf]; omega
    · obtain rfl : k = len := by omega
      have hwg : w.heap.size + 1 < wr.heap.size := HR.lt
      have T1 := Lib.hid HR
      have T0 := Lib.hid HR0
      have T2 := Lib.hid hbel
      have hwz := hbel.size
      clear HR hbel HR0
      have NO := Lib.hid (newObj (.slice (some ⟨(w.heap.size + 1), 0, none⟩) k k) (.slice none 0 0) _ _ _ _ _ _ rfl rfl wr)
      go_wp2_with fail
      refine NO.out.mono ?_
      rintro e w4 ⟨rfl, hb4⟩
      have Q0 := row_keep T0.out hb4 (Nat.le_refl _)
      have Q1 := row_keep T1.out hb4 (Nat.le_refl _)
      have hB4 := below_join T2.out hwz hb4
      have c0 := Q0.cell (i := 0) (by omega)
      have f0 := Q0.frozen 0
      have c1 := Q0.cell (i := 1) (by omega)
      have f1 := Q0.frozen 1
      have c2 := Q0.cell (i := 2) (by omega)
      have f2 := Q0.frozen 2
      have c3 := Q0.cell (i := 3) (by omega)
      have f3 := Q0.frozen 3
      have c4 := Q0.cell (i := 4) (by omega)
      have f4 := Q0.frozen 4
      have c5 := Q0.cell (i := 5) (by omega)
      have f5 := Q0.frozen 5
      have c6 := Q0.cell (i := 6) (by omega)
      have f6 := Q0.frozen 6
      have S7 := seven_row w4 w.heap.size 34 _ (.string { data := #[] }) (.slice none 0 0) (.slice (some ⟨(w.heap.size + 1), 0, none⟩) k k) (.slice none 0 0) (.int .i32 0) (.int .i32 0) (.int .u8 3) Q0
      have F7 := seven_far w4 w.heap.size (w.heap.size + 1) (.string { data := #[] }) (.slice none 0 0) (.slice (some ⟨(w.heap.size + 1), 0, none⟩) k k) (.slice none 0 0) (.int .i32 0) (.int .i32 0) (.int .u8 3) _ _ _ Q1 (by omega)
      have B7 := hB4.trans (seven_below w4 w.heap.size (.string { data := #[] }) (.slice none 0 0) (.slice (some ⟨(w.heap.size + 1), 0, none⟩) k k) (.slice none 0 0) (.int .i32 0) (.int .i32 0) (.int .u8 3))
      simp only [nil7] at c0 c1 c2 c3 c4 c5 c6
      have HS7 := Lib.hid S7; have HF7 := Lib.hid F7; have HB7 := Lib.hid B7
      clear Q0 Q1 hB4 hb4 S7 F7 B7
      go_wp2
      clear c0 c1 c2 c3 c4 c5 c6 f0 f1 f2 f3 f4 f5 f6
      generalize (((((((w4.setCell ⟨w.heap.size, 0, none⟩ (.string { data := #[] })).setCell ⟨w.heap.size, 1, none⟩ (.slice none 0 0)).setCell ⟨w.heap.size, 2, none⟩ (.slice (some ⟨(w.heap.size + 1), 0, none⟩) k k)).setCell ⟨w.heap.size, 3, none⟩ (.slice none 0 0)).setCell ⟨w.heap.size, 4, none⟩ (.int .i32 0)).setCell ⟨w.heap.size, 5, none⟩ (.int .i32 0)).setCell ⟨w.heap.size, 6, none⟩ (.int .u8 3)) = W7 at HS7 HF7 HB7 ⊢
      have d0 := HS7.out.cell (i := 0) (by omega)
      have d1 := HS7.out.cell (i := 1) (by omega)
      have d2 := HS7.out.cell (i := 2) (by omega)
      have d3 := HS7.out.cell (i := 3) (by omega)
      have d4 := HS7.out.cell (i := 4) (by omega)
      have d5 := HS7.out.cell (i := 5) (by omega)
      have d6 := HS7.out.cell (i := 6) (by omega)
      simp only [sev] at d0 d1 d2 d3 d4 d5 d6
      exact bodyPost_ret (v := .agg #[.string { data := #[] }, .slice none 0 0, .slice (some ⟨(w.heap.size + 1), 0, none⟩) k k, .slice none 0 0, .int .i32 0, .int .i32 0, .int .u8 3]) (by simp [results, Try.results8, go_sem, d0, d1, d2, d3, d4, d5, d6]) rfl ⟨rfl, HF7.out, HB7.out⟩
end Go.Proofs.Ytoonlcdifpffnaa.IeA
