/- valueForKey by its contract: the first entry of the key, or nothing. Conditions: at most 65537 entries. -/
import Derived.Test.YthenbnofpdjimaaVkA
import Derived.Deep.DeepCutAuto
namespace Go.Proofs.Ythenbnofpdjimaa.Vk
open Go.ChangeShapes Go.WideShapes Go.ChangeAt Go.RowKit Go.Deep Go.Proofs.Ythenbnofpdjimaa.Base Go.Proofs.Ythenbnofpdjimaa.Itoa Go.Proofs.Ythenbnofpdjimaa.Keyed Go.Proofs.Ythenbnofpdjimaa.Sls Go.Proofs.Ythenbnofpdjimaa.Swap
set_option linter.unusedVariables false
/-- The first place of q among the keys is p. -/
def First (ks : Nat → ByteArray) (n p : Nat) (q : ByteArray) : Prop := p < n ∧ ks p = q ∧ ∀ i, i < p → ks i ≠ q
/-- What valueForKey gives. -/
inductive Found (ks vs : Nat → ByteArray) (n : Nat) (q : ByteArray) : Value → Bool → Prop
  | yes (p : Nat) (h : First ks n p q) : Found ks vs n q (.agg #[.string (vs p), .slice none 0 0, .slice none 0 0, .slice none 0 0, .int .i32 0, .int .i32 0, .int .u8 1]) true
  | no (h : ∀ i, i < n → ks i ≠ q) : Found ks vs n q (.agg #[.string { data := #[] }, .slice none 0 0, .slice none 0 0, .slice none 0 0, .int .i32 0, .int .i32 0, .int .u8 0]) false
def Vf (ks vs : Nat → ByteArray) (n : Nat) (q : ByteArray) (w : World) (e : Ending) (w' : World) : Prop := ∃ v b, e = .returned (.tuple #[v, .bool b]) ∧ Found ks vs n q v b ∧ Below w.heap.size w w'
theorem row7' (w : World) (v0 v1 v2 v3 v4 v5 v6 : Value) : (w.alloc (.cells #[v0, v1, v2, v3, v4, v5, v6] 41)).rowIs w.heap.size 41 7 (sev v0 v1 v2 v3 v4 v5 v6) :=
  World.rowIs_alloc w #[v0, v1, v2, v3, v4, v5, v6] 41 _ (fun i hi => by
    match i, hi with
    | 0, _ => rfl
    | 1, _ => rfl
    | 2, _ => rfl
    | 3, _ => rfl
    | 4, _ => rfl
    | 5, _ => rfl
    | 6, _ => rfl)
set_option maxHeartbeats 2000000 in
theorem value_for (g len : Nat) (ks vs : Nat → ByteArray) (q : ByteArray) (w : World) (h : len ≤ 65537) (hg : w.rowIs g 49 (len * 10) (entg ks vs len)) :
    Calls Try.prog 29 #[.agg #[.string { data := #[] }, .slice none 0 0, .slice (some ⟨g, 0, none⟩) len len, .slice none 0 0, .int .i32 0, .int .i32 0, .int .u8 3], .string q] w (Vf ks vs len q w) := by
  have HG := Lib.hid hg
  have hgl := hg.lt
  have R1 := Lib.hid (row7 (w.alloc (.cells #[.string { data := #[] }, .slice none 0 0, .slice (some ⟨g, 0, none⟩) len len, .slice none 0 0, .int .i32 0, .int .i32 0, .int .u8 3] 41)))
  clear hg
  go_enter Try.func29, Try.ntmps29
  go_wp2
  go_loopw [11] (fun i wr => ∃ k : Nat, k ≤ len ∧ i = .int .i64 k ∧ Hid (∀ j, j < k → ks j ≠ q) ∧ wr.rowIs (w.heap.size + 1) 41 7 nil7 ∧ Below w.heap.size w wr) (fun i _ => len - (intOf i).toNat)
  case atStart =>
    refine ⟨0, by omega, rfl, Lib.hid (fun j hj => absurd hj (by omega)), ?_, ((Below.refl _ _).alloc (Nat.le_refl _) _).alloc (by simp) _⟩
    have := R1.out
    simp only [World.size_alloc] at this
    exact this
  case round =>
    obtain ⟨k, hk, rfl, HN, HR0, hbel⟩ := hrel
    have hwz := hbel.size
    have hwg : w.heap.size + 1 < wr.heap.size := HR0.lt
    by_cases hlt : k < len
    · have HGr := row_below HG.out hbel hgl
      have g0 : wr.cell? ⟨g, k * 10, none⟩ = some (.string (ks k)) := by rw [HGr.cell (i := k * 10) (by omega)]; exact congrArg some (entg_at ks vs len k 0 hlt (by omega))
      have g1 : wr.cell? ⟨g, k * 10 + 1, none⟩ = some (.string (vs k)) := by rw [HGr.cell (i := k * 10 + 1) (by omega)]; exact congrArg some (entg_at ks vs len k 1 hlt (by omega))
      have g2 : wr.cell? ⟨g, k * 10 + 2, none⟩ = some (.slice none 0 0) := by rw [HGr.cell (i := k * 10 + 2) (by omega)]; exact congrArg some (entg_at ks vs len k 2 hlt (by omega))
      have g3 : wr.cell? ⟨g, k * 10 + 3, none⟩ = some (.slice none 0 0) := by rw [HGr.cell (i := k * 10 + 3) (by omega)]; exact congrArg some (entg_at ks vs len k 3 hlt (by omega))
      have g4 : wr.cell? ⟨g, k * 10 + 4, none⟩ = some (.slice none 0 0) := by rw [HGr.cell (i := k * 10 + 4) (by omega)]; exact congrArg some (entg_at ks vs len k 4 hlt (by omega))
      have g5 : wr.cell? ⟨g, k * 10 + 5, none⟩ = some (.int .i32 0) := by rw [HGr.cell (i := k * 10 + 5) (by omega)]; exact congrArg some (entg_at ks vs len k 5 hlt (by omega))
      have g6 : wr.cell? ⟨g, k * 10 + 6, none⟩ = some (.int .i32 0) := by rw [HGr.cell (i := k * 10 + 6) (by omega)]; exact congrArg some (entg_at ks vs len k 6 hlt (by omega))
      have g7 : wr.cell? ⟨g, k * 10 + 7, none⟩ = some (.int .u8 1) := by rw [HGr.cell (i := k * 10 + 7) (by omega)]; exact congrArg some (entg_at ks vs len k 7 hlt (by omega))
      have g8 : wr.cell? ⟨g, k * 10 + 8, none⟩ = some (.int .i32 0) := by rw [HGr.cell (i := k * 10 + 8) (by omega)]; exact congrArg some (entg_at ks vs len k 8 hlt (by omega))
      have g9 : wr.cell? ⟨g, k * 10 + 9, none⟩ = some (.int .i32 0) := by rw [HGr.cell (i := k * 10 + 9) (by omega)]; exact congrArg some (entg_at ks vs len k 9 hlt (by omega))
      have x1 : (0 : Int) ≤ (k : Int) := by omega
      have x2 : (k : Int) < (len : Int) := by omega
      clear HGr
      by_cases hq : ks k = q
      · have e1 : ((ks k).toList == q.toList) = true := by rw [hq]; simp
        have HF := Lib.hid (show First ks len k q from ⟨hlt, hq, HN.out⟩)
        clear hq
        go_upto_region 5 with (fail)
        have RA := HR0.alloc (.cells #[.string (ks k), .string (vs k), .slice none 0 0, .slice none 0 0, .slice none 0 0, .int .i32 0, .int .i32 0, .int .u8 1, .int .i32 0, .int .i32 0] 49)
        have BA := hbel.alloc hwz (.cells #[.string (ks k), .string (vs k), .slice none 0 0, .slice none 0 0, .slice none 0 0, .int .i32 0, .int .i32 0, .int .u8 1, .int .i32 0, .int .i32 0] 49)
        have RI : (wr.alloc (.cells #[.string (ks k), .string (vs k), .slice none 0 0, .slice none 0 0, .slice none 0 0, .int .i32 0, .int .i32 0, .int .u8 1, .int .i32 0, .int .i32 0] 49)).rowIs wr.heap.size 49 10 (fld (ks k) (vs k) 1) := World.rowIs_alloc wr #[.string (ks k), .string (vs k), .slice none 0 0, .slice none 0 0, .slice none 0 0, .int .i32 0, .int .i32 0, .int .u8 1, .int .i32 0, .int .i32 0] 49 _ (fun i hi => by
          match i, hi with
          | 0, _ => rfl
          | 1, _ => rfl
          | 2, _ => rfl
          | 3, _ => rfl
          | 4, _ => rfl
          | 5, _ => rfl
          | 6, _ => rfl
          | 7, _ => rfl
          | 8, _ => rfl
          | 9, _ => rfl)
        clear HR0 hbel g0 g1 g2 g3 g4 g5 g6 g7 g8 g9
        generalize (wr.alloc (.cells #[.string (ks k), .string (vs k), .slice none 0 0, .slice none 0 0, .slice none 0 0, .int .i32 0, .int .i32 0, .int .u8 1, .int .i32 0, .int .i32 0] 49)) = wA at RA BA RI ⊢
        have i1 := RI.cell (i := 1) (by omega)
        have i2 := RI.cell (i := 2) (by omega)
        have i3 := RI.cell (i := 3) (by omega)
        have i4 := RI.cell (i := 4) (by omega)
        have i5 := RI.cell (i := 5) (by omega)
        have i6 := RI.cell (i := 6) (by omega)
        have i7 := RI.cell (i := 7) (by omega)
        simp only [fld] at i1 i2 i3 i4 i5 i6 i7
        have HR0 := RA
        have hbel := BA
        clear RI RA BA
        have Q0 := HR0
        have S7 := seven_row wA (w.heap.size + 1) 41 _ (.string (vs k)) (.slice none 0 0) (.slice none 0 0) (.slice none 0 0) (.int .i32 0) (.int .i32 0) (.int .u8 1) Q0
        have B7 := (hbel).trans ((seven_below wA (w.heap.size + 1) (.string (vs k)) (.slice none 0 0) (.slice none 0 0) (.slice none 0 0) (.int .i32 0) (.int .i32 0) (.int .u8 1)).mono (by omega))
        have c0 := Q0.cell (i := 0) (by omega)
        have f0 := Q0.frozen 0
        have c1 := Q0.cell (i := 1) (by omega)
        have f1 := Q0.frozen 1
        have c2 := Q0.cell (i := 2) (by omega)
        have f2 := Q0.frozen 2
        have c3 := Q0.cell (i := 3) (by omega)
        have f3 := Q0.frozen 3
        have c4 := Q0.cell (i := 4) (by omega)
        have f4 := Q0.frozen 4
        have c5 := Q0.cell (i := 5) (by omega)
        have f5 := Q0.frozen 5
        have c6 := Q0.cell (i := 6) (by omega)
        have f6 := Q0.frozen 6
        simp only [nil7] at c0 c1 c2 c3 c4 c5 c6
        have HS7 := Lib.hid S7; have HB7 := Lib.hid B7
        clear Q0 S7 B7 HR0 hbel
        go_wp2
        clear c0 c1 c2 c3 c4 c5 c6 f0 f1 f2 f3 f4 f5 f6
        generalize (((((((wA.setCell ⟨w.heap.size + 1, 0, none⟩ (.string (vs k))).setCell ⟨w.heap.size + 1, 1, none⟩ (.slice none 0 0)).setCell ⟨w.heap.size + 1, 2, none⟩ (.slice none 0 0)).setCell ⟨w.heap.size + 1, 3, none⟩ (.slice none 0 0)).setCell ⟨w.heap.size + 1, 4, none⟩ (.int .i32 0)).setCell ⟨w.heap.size + 1, 5, none⟩ (.int .i32 0)).setCell ⟨w.heap.size + 1, 6, none⟩ (.int .u8 1)) = W7 at HS7 HB7 ⊢
        have d0 := HS7.out.cell (i := 0) (by omega)
        have d1 := HS7.out.cell (i := 1) (by omega)
        have d2 := HS7.out.cell (i := 2) (by omega)
        have d3 := HS7.out.cell (i := 3) (by omega)
        have d4 := HS7.out.cell (i := 4) (by omega)
        have d5 := HS7.out.cell (i := 5) (by omega)
        have d6 := HS7.out.cell (i := 6) (by omega)
        simp only [sev] at d0 d1 d2 d3 d4 d5 d6
        exact bodyPost_ret (v := .tuple #[.agg #[.string (vs k), .slice none 0 0, .slice none 0 0, .slice none 0 0, .int .i32 0, .int .i32 0, .int .u8 1], .bool true]) (by simp [results, Try.results29, go_sem, d0, d1, d2, d3, d4, d5, d6]) rfl ⟨_, _, rfl, .yes k HF.out, HB7.out⟩
      · have e1 : ((ks k).toList == q.toList) = false := by rw [eq_toList]; simp [hq]
        have HN2 := Lib.hid (show ∀ j, j < k + 1 → ks j ≠ q from fun j hj => by
          rcases Nat.lt_or_ge j k with h | h
          · exact HN.out j h
          · obtain rfl : j = k := by omega
            exact hq)
        have R2 := Lib.hid (HR0.alloc (.cells #[.string (ks k), .string (vs k), .slice none 0 0, .slice none 0 0, .slice none 0 0, .int .i32 0, .int .i32 0, .int .u8 1, .int .i32 0, .int .i32 0] 49))
        have B2 := Lib.hid (hbel.alloc hwz (.cells #[.string (ks k), .string (vs k), .slice none 0 0, .slice none 0 0, .slice none 0 0, .int .i32 0, .int .i32 0, .int .u8 1, .int .i32 0, .int .i32 0] 49))
        clear hq HR0 hbel
        go_wp2
        go_roundw
        case rel => exact ⟨k + 1, by omega, by go_num, HN2, R2.out, B2.out⟩
        case measure => simp [intOf]; omega
    · obtain rfl : k = len := by omega
      have Q0 := HR0
      have S7 := seven_row wr (w.heap.size + 1) 41 _ (.string { data := #[] }) (.slice none 0 0) (.slice none 0 0) (.slice none 0 0) (.int .i32 0) (.int .i32 0) (.int .u8 0) Q0
      have B7 := (hbel).trans ((seven_below wr (w.heap.size + 1) (.string { data := #[] }) (.slice none 0 0) (.slice none 0 0) (.slice none 0 0) (.int .i32 0) (.int .i32 0) (.int .u8 0)).mono (by omega))
      have c0 := Q0.cell (i := 0) (by omega)
      have f0 := Q0.frozen 0
      have c1 := Q0.cell (i := 1) (by omega)
      have f1 := Q0.frozen 1
      have c2 := Q0.cell (i := 2) (by omega)
      have f2 := Q0.frozen 2
      have c3 := Q0.cell (i := 3) (by omega)
      have f3 := Q0.frozen 3
      have c4 := Q0.cell (i := 4) (by omega)
      have f4 := Q0.frozen 4
      have c5 := Q0.cell (i := 5) (by omega)
      have f5 := Q0.frozen 5
      have c6 := Q0.cell (i := 6) (by omega)
      have f6 := Q0.frozen 6
      simp only [nil7] at c0 c1 c2 c3 c4 c5 c6
      have HS7 := Lib.hid S7; have HB7 := Lib.hid B7
      clear Q0 S7 B7 HR0 hbel
      go_wp2
      clear c0 c1 c2 c3 c4 c5 c6 f0 f1 f2 f3 f4 f5 f6
      generalize (((((((wr.setCell ⟨w.heap.size + 1, 0, none⟩ (.string { data := #[] })).setCell ⟨w.heap.size + 1, 1, none⟩ (.slice none 0 0)).setCell ⟨w.heap.size + 1, 2, none⟩ (.slice none 0 0)).setCell ⟨w.heap.size + 1, 3, none⟩ (.slice none 0 0)).setCell ⟨w.heap.size + 1, 4, none⟩ (.int .i32 0)).setCell ⟨w.heap.size + 1, 5, none⟩ (.int .i32 0)).setCell ⟨w.heap.size + 1, 6, none⟩ (.int .u8 0)) = W7 at HS7 HB7 ⊢
      have d0 := HS7.out.cell (i := 0) (by omega)
      have d1 := HS7.out.cell (i := 1) (by omega)
      have d2 := HS7.out.cell (i := 2) (by omega)
      have d3 := HS7.out.cell (i := 3) (by omega)
      have d4 := HS7.out.cell (i := 4) (by omega)
      have d5 := HS7.out.cell (i := 5) (by omega)
      have d6 := HS7.out.cell (i := 6) (by omega)
      simp only [sev] at d0 d1 d2 d3 d4 d5 d6
      exact bodyPost_ret (v := .tuple #[.agg #[.string { data := #[] }, .slice none 0 0, .slice none 0 0, .slice none 0 0, .int .i32 0, .int .i32 0, .int .u8 0], .bool false]) (by simp [results, Try.results29, go_sem, d0, d1, d2, d3, d4, d5, d6]) rfl ⟨_, _, rfl, .no HN.out, HB7.out⟩
end Go.Proofs.Ythenbnofpdjimaa.Vk
