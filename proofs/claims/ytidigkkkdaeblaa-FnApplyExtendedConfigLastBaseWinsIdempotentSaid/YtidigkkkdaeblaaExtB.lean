/- Eight of the thirty-two ways through applyExtendedConfig. No condition. -/
import Derived.Test.YtidigkkkdaeblaaExt
namespace Go.Proofs.Ytidigkkkdaeblaa.Ext
open Go.ChangeShapes Go.WideShapes Go.ChangeAt Go.RowKit Go.Deep Go.Proofs.Ytidigkkkdaeblaa.Base Go.Proofs.Ytidigkkkdaeblaa.Cfg
set_option linter.unusedVariables false
set_option maxRecDepth 100000 in
set_option maxHeartbeats 1000000 in
theorem ext_1 (D : Nat) (w : World) (sd fd ld sb fb lb : ByteArray) (nd nb : Int) (pUd pPd pSd pAd : Option Addr) (yU yP yS yA : Addr) (HR : w.rowIs D 53 29 (F sd fd ld nd pUd pPd pSd pAd)) (hn : 0 < nb) :
    Calls Try.prog 11 #[.pointer (some ⟨D, 0, none⟩), .agg (cfg sb fb lb nb none none none none)] w fun e w' => e = .returned (.tuple #[]) ∧ w'.rowIs D 53 29 (F sd fd lb nb pUd pPd pSd pAd) ∧ But D w w' := by
  have hD := HR.lt
  have c4 : w.cell? ⟨D, 4, none⟩ = some (F sd fd ld nd pUd pPd pSd pAd 4) := HR.cell (by omega)
  have f4 := HR.frozen 4
  have c5 : w.cell? ⟨D, 5, none⟩ = some (F sd fd ld nd pUd pPd pSd pAd 5) := HR.cell (by omega)
  have f5 := HR.frozen 5
  have c6 : w.cell? ⟨D, 6, none⟩ = some (F sd fd ld nd pUd pPd pSd pAd 6) := HR.cell (by omega)
  have f6 := HR.frozen 6
  have c7 : w.cell? ⟨D, 7, none⟩ = some (F sd fd ld nd pUd pPd pSd pAd 7) := HR.cell (by omega)
  have f7 := HR.frozen 7
  have c8 : w.cell? ⟨D, 8, none⟩ = some (F sd fd ld nd pUd pPd pSd pAd 8) := HR.cell (by omega)
  have f8 := HR.frozen 8
  have c9 : w.cell? ⟨D, 9, none⟩ = some (F sd fd ld nd pUd pPd pSd pAd 9) := HR.cell (by omega)
  have f9 := HR.frozen 9
  have c10 : w.cell? ⟨D, 10, none⟩ = some (F sd fd ld nd pUd pPd pSd pAd 10) := HR.cell (by omega)
  have f10 := HR.frozen 10
  have c11 : w.cell? ⟨D, 11, none⟩ = some (F sd fd ld nd pUd pPd pSd pAd 11) := HR.cell (by omega)
  have f11 := HR.frozen 11
  have c12 : w.cell? ⟨D, 12, none⟩ = some (F sd fd ld nd pUd pPd pSd pAd 12) := HR.cell (by omega)
  have f12 := HR.frozen 12
  have c13 : w.cell? ⟨D, 13, none⟩ = some (F sd fd ld nd pUd pPd pSd pAd 13) := HR.cell (by omega)
  have f13 := HR.frozen 13
  have c14 : w.cell? ⟨D, 14, none⟩ = some (F sd fd ld nd pUd pPd pSd pAd 14) := HR.cell (by omega)
  have f14 := HR.frozen 14
  have c15 : w.cell? ⟨D, 15, none⟩ = some (F sd fd ld nd pUd pPd pSd pAd 15) := HR.cell (by omega)
  have f15 := HR.frozen 15
  have c16 : w.cell? ⟨D, 16, none⟩ = some (F sd fd ld nd pUd pPd pSd pAd 16) := HR.cell (by omega)
  have f16 := HR.frozen 16
  have HRW := Lib.hid (show ((((((((((((((w.setCell ⟨D, 4, none⟩ (.string lb)).setCell ⟨D, 5, none⟩ (.string { data := #[] })).setCell ⟨D, 6, none⟩ (.string { data := #[] })).setCell ⟨D, 7, none⟩ (.string { data := #[] })).setCell ⟨D, 8, none⟩ (.string { data := #[] })).setCell ⟨D, 9, none⟩ (.string { data := #[] })).setCell ⟨D, 10, none⟩ (.string { data := #[] })).setCell ⟨D, 11, none⟩ (.string { data := #[] })).setCell ⟨D, 12, none⟩ (.string { data := #[] })).setCell ⟨D, 13, none⟩ (.int .u8 0)).setCell ⟨D, 14, none⟩ (.int .u32 0)).setCell ⟨D, 15, none⟩ (.int .i32 0)).setCell ⟨D, 16, none⟩ (.int .i32 nb)).alloc (.cells (cfg sb fb lb nb none none none none) 53)).rowIs D 53 29 (F sd fd lb nb pUd pPd pSd pAd) from
    (World.rowIs.congr (((((((((((((HR.set 4 (.string lb)).set 5 (.string { data := #[] })).set 6 (.string { data := #[] })).set 7 (.string { data := #[] })).set 8 (.string { data := #[] })).set 9 (.string { data := #[] })).set 10 (.string { data := #[] })).set 11 (.string { data := #[] })).set 12 (.string { data := #[] })).set 13 (.int .u8 0)).set 14 (.int .u32 0)).set 15 (.int .i32 0)).set 16 (.int .i32 nb)) (fun i hi => by
      rcases (show i = 0 ∨ i = 1 ∨ i = 2 ∨ i = 3 ∨ i = 4 ∨ i = 5 ∨ i = 6 ∨ i = 7 ∨ i = 8 ∨ i = 9 ∨ i = 10 ∨ i = 11 ∨ i = 12 ∨ i = 13 ∨ i = 14 ∨ i = 15 ∨ i = 16 ∨ i = 17 ∨ i = 18 ∨ i = 19 ∨ i = 20 ∨ i = 21 ∨ i = 22 ∨ i = 23 ∨ i = 24 ∨ i = 25 ∨ i = 26 ∨ i = 27 ∨ i = 28 by omega) with rfl | rfl | rfl | rfl | rfl | rfl | rfl | rfl | rfl | rfl | rfl | rfl | rfl | rfl | rfl | rfl | rfl | rfl | rfl | rfl | rfl | rfl | rfl | rfl | rfl | rfl | rfl | rfl | rfl <;> rfl)).alloc _)
  have HBW := Lib.hid (show But D w ((((((((((((((w.setCell ⟨D, 4, none⟩ (.string lb)).setCell ⟨D, 5, none⟩ (.string { data := #[] })).setCell ⟨D, 6, none⟩ (.string { data := #[] })).setCell ⟨D, 7, none⟩ (.string { data := #[] })).setCell ⟨D, 8, none⟩ (.string { data := #[] })).setCell ⟨D, 9, none⟩ (.string { data := #[] })).setCell ⟨D, 10, none⟩ (.string { data := #[] })).setCell ⟨D, 11, none⟩ (.string { data := #[] })).setCell ⟨D, 12, none⟩ (.string { data := #[] })).setCell ⟨D, 13, none⟩ (.int .u8 0)).setCell ⟨D, 14, none⟩ (.int .u32 0)).setCell ⟨D, 15, none⟩ (.int .i32 0)).setCell ⟨D, 16, none⟩ (.int .i32 nb)).alloc (.cells (cfg sb fb lb nb none none none none) 53)) from
    ((((((((((((((But.refl D w).trans (But.set D 4 _ (.string lb))).trans (But.set D 5 _ (.string { data := #[] }))).trans (But.set D 6 _ (.string { data := #[] }))).trans (But.set D 7 _ (.string { data := #[] }))).trans (But.set D 8 _ (.string { data := #[] }))).trans (But.set D 9 _ (.string { data := #[] }))).trans (But.set D 10 _ (.string { data := #[] }))).trans (But.set D 11 _ (.string { data := #[] }))).trans (But.set D 12 _ (.string { data := #[] }))).trans (But.set D 13 _ (.int .u8 0))).trans (But.set D 14 _ (.int .u32 0))).trans (But.set D 15 _ (.int .i32 0))).trans (But.set D 16 _ (.int .i32 nb))).trans (But.of_below ((Below.refl _ _).alloc (Nat.le_refl _) _)))
  clear HR
  unfold cfg at HRW HBW ⊢
  go_enter Try.func11, Try.ntmps11
  go_wp2_with fail
  go_region_with ((go_at_call 12; refine (jsx_any _ _).mono ?_; rintro e w1 ⟨rfl, hb1⟩))
  clear c4 f4 c5 f5 c6 f6 c7 f7 c8 f8 c9 f9 c10 f10 c11 f11 c12 f12 c13 f13 c14 f14 c15 f15 c16 f16
  have d23 : w1.cell? ⟨w.heap.size, 23, none⟩ = some (.int .u8 0) := (bcell hb1 (by simp) 23).trans (new_cell _ (by simp) rfl)
  have d24 : w1.cell? ⟨w.heap.size, 24, none⟩ = some (.int .u8 0) := (bcell hb1 (by simp) 24).trans (new_cell _ (by simp) rfl)
  have d25 : w1.cell? ⟨w.heap.size, 25, none⟩ = some (.int .u8 0) := (bcell hb1 (by simp) 25).trans (new_cell _ (by simp) rfl)
  have d26 : w1.cell? ⟨w.heap.size, 26, none⟩ = some (.int .u8 0) := (bcell hb1 (by simp) 26).trans (new_cell _ (by simp) rfl)
  have d27 : w1.cell? ⟨w.heap.size, 27, none⟩ = some (.int .u8 0) := (bcell hb1 (by simp) 27).trans (new_cell _ (by simp) rfl)
  have d28 : w1.cell? ⟨w.heap.size, 28, none⟩ = some (.int .u8 0) := (bcell hb1 (by simp) 28).trans (new_cell _ (by simp) rfl)
  have hz := hb1.size
  simp at hz
  go_wp2_with fail
  go_region_with ((go_at_call 13; refine (settings_any _ _).mono ?_; rintro e w2 ⟨rfl, hb2⟩))
  go_wp2
  go_returns
  exact ⟨rfl, row_keep (row_keep HRW.out.drew hb1).drew hb2, (HBW.out.drew.trans (But.of_below hb1)).drew.trans (But.of_below hb2)⟩
set_option maxRecDepth 100000 in
set_option maxHeartbeats 1000000 in
theorem ext_5 (D : Nat) (w : World) (sd fd ld sb fb lb : ByteArray) (nd nb : Int) (pUd pPd pSd pAd : Option Addr) (yU yP yS yA : Addr) (HR : w.rowIs D 53 29 (F sd fd ld nd pUd pPd pSd pAd)) (hn : 0 < nb) :
    Calls Try.prog 11 #[.pointer (some ⟨D, 0, none⟩), .agg (cfg sb fb lb nb none none none (some yA))] w fun e w' => e = .returned (.tuple #[]) ∧ w'.rowIs D 53 29 (F sd fd lb nb pUd pPd pSd (some yA)) ∧ But D w w' := by
  have hD := HR.lt
  have c4 : w.cell? ⟨D, 4, none⟩ = some (F sd fd ld nd pUd pPd pSd pAd 4) := HR.cell (by omega)
  have f4 := HR.frozen 4
  have c5 : w.cell? ⟨D, 5, none⟩ = some (F sd fd ld nd pUd pPd pSd pAd 5) := HR.cell (by omega)
  have f5 := HR.frozen 5
  have c6 : w.cell? ⟨D, 6, none⟩ = some (F sd fd ld nd pUd pPd pSd pAd 6) := HR.cell (by omega)
  have f6 := HR.frozen 6
  have c7 : w.cell? ⟨D, 7, none⟩ = some (F sd fd ld nd pUd pPd pSd pAd 7) := HR.cell (by omega)
  have f7 := HR.frozen 7
  have c8 : w.cell? ⟨D, 8, none⟩ = some (F sd fd ld nd pUd pPd pSd pAd 8) := HR.cell (by omega)
  have f8 := HR.frozen 8
  have c9 : w.cell? ⟨D, 9, none⟩ = some (F sd fd ld nd pUd pPd pSd pAd 9) := HR.cell (by omega)
  have f9 := HR.frozen 9
  have c10 : w.cell? ⟨D, 10, none⟩ = some (F sd fd ld nd pUd pPd pSd pAd 10) := HR.cell (by omega)
  have f10 := HR.frozen 10
  have c11 : w.cell? ⟨D, 11, none⟩ = some (F sd fd ld nd pUd pPd pSd pAd 11) := HR.cell (by omega)
  have f11 := HR.frozen 11
  have c12 : w.cell? ⟨D, 12, none⟩ = some (F sd fd ld nd pUd pPd pSd pAd 12) := HR.cell (by omega)
  have f12 := HR.frozen 12
  have c13 : w.cell? ⟨D, 13, none⟩ = some (F sd fd ld nd pUd pPd pSd pAd 13) := HR.cell (by omega)
  have f13 := HR.frozen 13
  have c14 : w.cell? ⟨D, 14, none⟩ = some (F sd fd ld nd pUd pPd pSd pAd 14) := HR.cell (by omega)
  have f14 := HR.frozen 14
  have c15 : w.cell? ⟨D, 15, none⟩ = some (F sd fd ld nd pUd pPd pSd pAd 15) := HR.cell (by omega)
  have f15 := HR.frozen 15
  have c16 : w.cell? ⟨D, 16, none⟩ = some (F sd fd ld nd pUd pPd pSd pAd 16) := HR.cell (by omega)
  have f16 := HR.frozen 16
  have c18 : w.cell? ⟨D, 18, none⟩ = some (F sd fd ld nd pUd pPd pSd pAd 18) := HR.cell (by omega)
  have f18 := HR.frozen 18
  have HRW := Lib.hid (show (((((((((((((((w.setCell ⟨D, 4, none⟩ (.string lb)).setCell ⟨D, 5, none⟩ (.string { data := #[] })).setCell ⟨D, 6, none⟩ (.string { data := #[] })).setCell ⟨D, 7, none⟩ (.string { data := #[] })).setCell ⟨D, 8, none⟩ (.string { data := #[] })).setCell ⟨D, 9, none⟩ (.string { data := #[] })).setCell ⟨D, 10, none⟩ (.string { data := #[] })).setCell ⟨D, 11, none⟩ (.string { data := #[] })).setCell ⟨D, 12, none⟩ (.string { data := #[] })).setCell ⟨D, 13, none⟩ (.int .u8 0)).setCell ⟨D, 14, none⟩ (.int .u32 0)).setCell ⟨D, 15, none⟩ (.int .i32 0)).setCell ⟨D, 16, none⟩ (.int .i32 nb)).setCell ⟨D, 18, none⟩ (.pointer (some yA))).alloc (.cells (cfg sb fb lb nb none none none (some yA)) 53)).rowIs D 53 29 (F sd fd lb nb pUd pPd pSd (some yA)) from
    (World.rowIs.congr ((((((((((((((HR.set 4 (.string lb)).set 5 (.string { data := #[] })).set 6 (.string { data := #[] })).set 7 (.string { data := #[] })).set 8 (.string { data := #[] })).set 9 (.string { data := #[] })).set 10 (.string { data := #[] })).set 11 (.string { data := #[] })).set 12 (.string { data := #[] })).set 13 (.int .u8 0)).set 14 (.int .u32 0)).set 15 (.int .i32 0)).set 16 (.int .i32 nb)).set 18 (.pointer (some yA))) (fun i hi => by
      rcases (show i = 0 ∨ i = 1 ∨ i = 2 ∨ i = 3 ∨ i = 4 ∨ i = 5 ∨ i = 6 ∨ i = 7 ∨ i = 8 ∨ i = 9 ∨ i = 10 ∨ i = 11 ∨ i = 12 ∨ i = 13 ∨ i = 14 ∨ i = 15 ∨ i = 16 ∨ i = 17 ∨ i = 18 ∨ i = 19 ∨ i = 20 ∨ i = 21 ∨ i = 22 ∨ i = 23 ∨ i = 24 ∨ i = 25 ∨ i = 26 ∨ i = 27 ∨ i = 28 by omega) with rfl | rfl | rfl | rfl | rfl | rfl | rfl | rfl | rfl | rfl | rfl | rfl | rfl | rfl | rfl | rfl | rfl | rfl | rfl | rfl | rfl | rfl | rfl | rfl | rfl | rfl | rfl | rfl | rfl <;> rfl)).alloc _)
  have HBW := Lib.hid (show But D w (((((((((((((((w.setCell ⟨D, 4, none⟩ (.string lb)).setCell ⟨D, 5, none⟩ (.string { data := #[] })).setCell ⟨D, 6, none⟩ (.string { data := #[] })).setCell ⟨D, 7, none⟩ (.string { data := #[] })).setCell ⟨D, 8, none⟩ (.string { data := #[] })).setCell ⟨D, 9, none⟩ (.string { data := #[] })).setCell ⟨D, 10, none⟩ (.string { data := #[] })).setCell ⟨D, 11, none⟩ (.string { data := #[] })).setCell ⟨D, 12, none⟩ (.string { data := #[] })).setCell ⟨D, 13, none⟩ (.int .u8 0)).setCell ⟨D, 14, none⟩ (.int .u32 0)).setCell ⟨D, 15, none⟩ (.int .i32 0)).setCell ⟨D, 16, none⟩ (.int .i32 nb)).setCell ⟨D, 18, none⟩ (.pointer (some yA))).alloc (.cells (cfg sb fb lb nb none none none (some yA)) 53)) from
    (((((((((((((((But.refl D w).trans (But.set D 4 _ (.string lb))).trans (But.set D 5 _ (.string { data := #[] }))).trans (But.set D 6 _ (.string { data := #[] }))).trans (But.set D 7 _ (.string { data := #[] }))).trans (But.set D 8 _ (.string { data := #[] }))).trans (But.set D 9 _ (.string { data := #[] }))).trans (But.set D 10 _ (.string { data := #[] }))).trans (But.set D 11 _ (.string { data := #[] }))).trans (But.set D 12 _ (.string { data := #[] }))).trans (But.set D 13 _ (.int .u8 0))).trans (But.set D 14 _ (.int .u32 0))).trans (But.set D 15 _ (.int .i32 0))).trans (But.set D 16 _ (.int .i32 nb))).trans (But.set D 18 _ (.pointer (some yA)))).trans (But.of_below ((Below.refl _ _).alloc (Nat.le_refl _) _)))
  clear HR
  unfold cfg at HRW HBW ⊢
  go_enter Try.func11, Try.ntmps11
  go_wp2_with fail
  go_region_with ((go_at_call 12; refine (jsx_any _ _).mono ?_; rintro e w1 ⟨rfl, hb1⟩))
  clear c4 f4 c5 f5 c6 f6 c7 f7 c8 f8 c9 f9 c10 f10 c11 f11 c12 f12 c13 f13 c14 f14 c15 f15 c16 f16 c18 f18
  have d23 : w1.cell? ⟨w.heap.size, 23, none⟩ = some (.int .u8 0) := (bcell hb1 (by simp) 23).trans (new_cell _ (by simp) rfl)
  have d24 : w1.cell? ⟨w.heap.size, 24, none⟩ = some (.int .u8 0) := (bcell hb1 (by simp) 24).trans (new_cell _ (by simp) rfl)
  have d25 : w1.cell? ⟨w.heap.size, 25, none⟩ = some (.int .u8 0) := (bcell hb1 (by simp) 25).trans (new_cell _ (by simp) rfl)
  have d26 : w1.cell? ⟨w.heap.size, 26, none⟩ = some (.int .u8 0) := (bcell hb1 (by simp) 26).trans (new_cell _ (by simp) rfl)
  have d27 : w1.cell? ⟨w.heap.size, 27, none⟩ = some (.int .u8 0) := (bcell hb1 (by simp) 27).trans (new_cell _ (by simp) rfl)
  have d28 : w1.cell? ⟨w.heap.size, 28, none⟩ = some (.int .u8 0) := (bcell hb1 (by simp) 28).trans (new_cell _ (by simp) rfl)
  have hz := hb1.size
  simp at hz
  go_wp2_with fail
  go_region_with ((go_at_call 13; refine (settings_any _ _).mono ?_; rintro e w2 ⟨rfl, hb2⟩))
  go_wp2
  go_returns
  exact ⟨rfl, row_keep (row_keep HRW.out.drew hb1).drew hb2, (HBW.out.drew.trans (But.of_below hb1)).drew.trans (But.of_below hb2)⟩
set_option maxRecDepth 100000 in
set_option maxHeartbeats 1000000 in
theorem ext_9 (D : Nat) (w : World) (sd fd ld sb fb lb : ByteArray) (nd nb : Int) (pUd pPd pSd pAd : Option Addr) (yU yP yS yA : Addr) (HR : w.rowIs D 53 29 (F sd fd ld nd pUd pPd pSd pAd)) (hn : 0 < nb) :
    Calls Try.prog 11 #[.pointer (some ⟨D, 0, none⟩), .agg (cfg sb fb lb nb (some yU) none none none)] w fun e w' => e = .returned (.tuple #[]) ∧ w'.rowIs D 53 29 (F sd fd lb nb (some yU) pPd pSd pAd) ∧ But D w w' := by
  have hD := HR.lt
  have c1 : w.cell? ⟨D, 1, none⟩ = some (F sd fd ld nd pUd pPd pSd pAd 1) := HR.cell (by omega)
  have f1 := HR.frozen 1
  have c4 : w.cell? ⟨D, 4, none⟩ = some (F sd fd ld nd pUd pPd pSd pAd 4) := HR.cell (by omega)
  have f4 := HR.frozen 4
  have c5 : w.cell? ⟨D, 5, none⟩ = some (F sd fd ld nd pUd pPd pSd pAd 5) := HR.cell (by omega)
  have f5 := HR.frozen 5
  have c6 : w.cell? ⟨D, 6, none⟩ = some (F sd fd ld nd pUd pPd pSd pAd 6) := HR.cell (by omega)
  have f6 := HR.frozen 6
  have c7 : w.cell? ⟨D, 7, none⟩ = some (F sd fd ld nd pUd pPd pSd pAd 7) := HR.cell (by omega)
  have f7 := HR.frozen 7
  have c8 : w.cell? ⟨D, 8, none⟩ = some (F sd fd ld nd pUd pPd pSd pAd 8) := HR.cell (by omega)
  have f8 := HR.frozen 8
  have c9 : w.cell? ⟨D, 9, none⟩ = some (F sd fd ld nd pUd pPd pSd pAd 9) := HR.cell (by omega)
  have f9 := HR.frozen 9
  have c10 : w.cell? ⟨D, 10, none⟩ = some (F sd fd ld nd pUd pPd pSd pAd 10) := HR.cell (by omega)
  have f10 := HR.frozen 10
  have c11 : w.cell? ⟨D, 11, none⟩ = some (F sd fd ld nd pUd pPd pSd pAd 11) := HR.cell (by omega)
  have f11 := HR.frozen 11
  have c12 : w.cell? ⟨D, 12, none⟩ = some (F sd fd ld nd pUd pPd pSd pAd 12) := HR.cell (by omega)
  have f12 := HR.frozen 12
  have c13 : w.cell? ⟨D, 13, none⟩ = some (F sd fd ld nd pUd pPd pSd pAd 13) := HR.cell (by omega)
  have f13 := HR.frozen 13
  have c14 : w.cell? ⟨D, 14, none⟩ = some (F sd fd ld nd pUd pPd pSd pAd 14) := HR.cell (by omega)
  have f14 := HR.frozen 14
  have c15 : w.cell? ⟨D, 15, none⟩ = some (F sd fd ld nd pUd pPd pSd pAd 15) := HR.cell (by omega)
  have f15 := HR.frozen 15
  have c16 : w.cell? ⟨D, 16, none⟩ = some (F sd fd ld nd pUd pPd pSd pAd 16) := HR.cell (by omega)
  have f16 := HR.frozen 16
  have HRW := Lib.hid (show (((((((((((((((w.setCell ⟨D, 4, none⟩ (.string lb)).setCell ⟨D, 5, none⟩ (.string { data := #[] })).setCell ⟨D, 6, none⟩ (.string { data := #[] })).setCell ⟨D, 7, none⟩ (.string { data := #[] })).setCell ⟨D, 8, none⟩ (.string { data := #[] })).setCell ⟨D, 9, none⟩ (.string { data := #[] })).setCell ⟨D, 10, none⟩ (.string { data := #[] })).setCell ⟨D, 11, none⟩ (.string { data := #[] })).setCell ⟨D, 12, none⟩ (.string { data := #[] })).setCell ⟨D, 13, none⟩ (.int .u8 0)).setCell ⟨D, 14, none⟩ (.int .u32 0)).setCell ⟨D, 15, none⟩ (.int .i32 0)).setCell ⟨D, 16, none⟩ (.int .i32 nb)).setCell ⟨D, 1, none⟩ (.pointer (some yU))).alloc (.cells (cfg sb fb lb nb (some yU) none none none) 53)).rowIs D 53 29 (F sd fd lb nb (some yU) pPd pSd pAd) from
    (World.rowIs.congr ((((((((((((((HR.set 4 (.string lb)).set 5 (.string { data := #[] })).set 6 (.string { data := #[] })).set 7 (.string { data := #[] })).set 8 (.string { data := #[] })).set 9 (.string { data := #[] })).set 10 (.string { data := #[] })).set 11 (.string { data := #[] })).set 12 (.string { data := #[] })).set 13 (.int .u8 0)).set 14 (.int .u32 0)).set 15 (.int .i32 0)).set 16 (.int .i32 nb)).set 1 (.pointer (some yU))) (fun i hi => by
      rcases (show i = 0 ∨ i = 1 ∨ i = 2 ∨ i = 3 ∨ i = 4 ∨ i = 5 ∨ i = 6 ∨ i = 7 ∨ i = 8 ∨ i = 9 ∨ i = 10 ∨ i = 11 ∨ i = 12 ∨ i = 13 ∨ i = 14 ∨ i = 15 ∨ i = 16 ∨ i = 17 ∨ i = 18 ∨ i = 19 ∨ i = 20 ∨ i = 21 ∨ i = 22 ∨ i = 23 ∨ i = 24 ∨ i = 25 ∨ i = 26 ∨ i = 27 ∨ i = 28 by omega) with rfl | rfl | rfl | rfl | rfl | rfl | rfl | rfl | rfl | rfl | rfl | rfl | rfl | rfl | rfl | rfl | rfl | rfl | rfl | rfl | rfl | rfl | rfl | rfl | rfl | rfl | rfl | rfl | rfl <;> rfl)).alloc _)
  have HBW := Lib.hid (show But D w (((((((((((((((w.setCell ⟨D, 4, none⟩ (.string lb)).setCell ⟨D, 5, none⟩ (.string { data := #[] })).setCell ⟨D, 6, none⟩ (.string { data := #[] })).setCell ⟨D, 7, none⟩ (.string { data := #[] })).setCell ⟨D, 8, none⟩ (.string { data := #[] })).setCell ⟨D, 9, none⟩ (.string { data := #[] })).setCell ⟨D, 10, none⟩ (.string { data := #[] })).setCell ⟨D, 11, none⟩ (.string { data := #[] })).setCell ⟨D, 12, none⟩ (.string { data := #[] })).setCell ⟨D, 13, none⟩ (.int .u8 0)).setCell ⟨D, 14, none⟩ (.int .u32 0)).setCell ⟨D, 15, none⟩ (.int .i32 0)).setCell ⟨D, 16, none⟩ (.int .i32 nb)).setCell ⟨D, 1, none⟩ (.pointer (some yU))).alloc (.cells (cfg sb fb lb nb (some yU) none none none) 53)) from
    (((((((((((((((But.refl D w).trans (But.set D 4 _ (.string lb))).trans (But.set D 5 _ (.string { data := #[] }))).trans (But.set D 6 _ (.string { data := #[] }))).trans (But.set D 7 _ (.string { data := #[] }))).trans (But.set D 8 _ (.string { data := #[] }))).trans (But.set D 9 _ (.string { data := #[] }))).trans (But.set D 10 _ (.string { data := #[] }))).trans (But.set D 11 _ (.string { data := #[] }))).trans (But.set D 12 _ (.string { data := #[] }))).trans (But.set D 13 _ (.int .u8 0))).trans (But.set D 14 _ (.int .u32 0))).trans (But.set D 15 _ (.int .i32 0))).trans (But.set D 16 _ (.int .i32 nb))).trans (But.set D 1 _ (.pointer (some yU)))).trans (But.of_below ((Below.refl _ _).alloc (Nat.le_refl _) _)))
  clear HR
  unfold cfg at HRW HBW ⊢
  go_enter Try.func11, Try.ntmps11
  go_wp2_with fail
  go_region_with ((go_at_call 12; refine (jsx_any _ _).mono ?_; rintro e w1 ⟨rfl, hb1⟩))
  clear c1 f1 c4 f4 c5 f5 c6 f6 c7 f7 c8 f8 c9 f9 c10 f10 c11 f11 c12 f12 c13 f13 c14 f14 c15 f15 c16 f16
  have d23 : w1.cell? ⟨w.heap.size, 23, none⟩ = some (.int .u8 0) := (bcell hb1 (by simp) 23).trans (new_cell _ (by simp) rfl)
  have d24 : w1.cell? ⟨w.heap.size, 24, none⟩ = some (.int .u8 0) := (bcell hb1 (by simp) 24).trans (new_cell _ (by simp) rfl)
  have d25 : w1.cell? ⟨w.heap.size, 25, none⟩ = some (.int .u8 0) := (bcell hb1 (by simp) 25).trans (new_cell _ (by simp) rfl)
  have d26 : w1.cell? ⟨w.heap.size, 26, none⟩ = some (.int .u8 0) := (bcell hb1 (by simp) 26).trans (new_cell _ (by simp) rfl)
  have d27 : w1.cell? ⟨w.heap.size, 27, none⟩ = some (.int .u8 0) := (bcell hb1 (by simp) 27).trans (new_cell _ (by simp) rfl)
  have d28 : w1.cell? ⟨w.heap.size, 28, none⟩ = some (.int .u8 0) := (bcell hb1 (by simp) 28).trans (new_cell _ (by simp) rfl)
  have hz := hb1.size
  simp at hz
  go_wp2_with fail
  go_region_with ((go_at_call 13; refine (settings_any _ _).mono ?_; rintro e w2 ⟨rfl, hb2⟩))
  go_wp2
  go_returns
  exact ⟨rfl, row_keep (row_keep HRW.out.drew hb1).drew hb2, (HBW.out.drew.trans (But.of_below hb1)).drew.trans (But.of_below hb2)⟩
set_option maxRecDepth 100000 in
set_option maxHeartbeats 1000000 in
theorem ext_13 (D : Nat) (w : World) (sd fd ld sb fb lb : ByteArray) (nd nb : Int) (pUd pPd pSd pAd : Option Addr) (yU yP yS yA : Addr) (HR : w.rowIs D 53 29 (F sd fd ld nd pUd pPd pSd pAd)) (hn : 0 < nb) :
    Calls Try.prog 11 #[.pointer (some ⟨D, 0, none⟩), .agg (cfg sb fb lb nb (some yU) none none (some yA))] w fun e w' => e = .returned (.tuple #[]) ∧ w'.rowIs D 53 29 (F sd fd lb nb (some yU) pPd pSd (some yA)) ∧ But D w w' := by
  have hD := HR.lt
  have c1 : w.cell? ⟨D, 1, none⟩ = some (F sd fd ld nd pUd pPd pSd pAd 1) := HR.cell (by omega)
  have f1 := HR.frozen 1
  have c4 : w.cell? ⟨D, 4, none⟩ = some (F sd fd ld nd pUd pPd pSd pAd 4) := HR.cell (by omega)
  have f4 := HR.frozen 4
  have c5 : w.cell? ⟨D, 5, none⟩ = some (F sd fd ld nd pUd pPd pSd pAd 5) := HR.cell (by omega)
  have f5 := HR.frozen 5
  have c6 : w.cell? ⟨D, 6, none⟩ = some (F sd fd ld nd pUd pPd pSd pAd 6) := HR.cell (by omega)
  have f6 := HR.frozen 6
  have c7 : w.cell? ⟨D, 7, none⟩ = some (F sd fd ld nd pUd pPd pSd pAd 7) := HR.cell (by omega)
  have f7 := HR.frozen 7
  have c8 : w.cell? ⟨D, 8, none⟩ = some (F sd fd ld nd pUd pPd pSd pAd 8) := HR.cell (by omega)
  have f8 := HR.frozen 8
  have c9 : w.cell? ⟨D, 9, none⟩ = some (F sd fd ld nd pUd pPd pSd pAd 9) := HR.cell (by omega)
  have f9 := HR.frozen 9
  have c10 : w.cell? ⟨D, 10, none⟩ = some (F sd fd ld nd pUd pPd pSd pAd 10) := HR.cell (by omega)
  have f10 := HR.frozen 10
  have c11 : w.cell? ⟨D, 11, none⟩ = some (F sd fd ld nd pUd pPd pSd pAd 11) := HR.cell (by omega)
  have f11 := HR.frozen 11
  have c12 : w.cell? ⟨D, 12, none⟩ = some (F sd fd ld nd pUd pPd pSd pAd 12) := HR.cell (by omega)
  have f12 := HR.frozen 12
  have c13 : w.cell? ⟨D, 13, none⟩ = some (F sd fd ld nd pUd pPd pSd pAd 13) := HR.cell (by omega)
  have f13 := HR.frozen 13
  have c14 : w.cell? ⟨D, 14, none⟩ = some (F sd fd ld nd pUd pPd pSd pAd 14) := HR.cell (by omega)
  have f14 := HR.frozen 14
  have c15 : w.cell? ⟨D, 15, none⟩ = some (F sd fd ld nd pUd pPd pSd pAd 15) := HR.cell (by omega)
  have f15 := HR.frozen 15
  have c16 : w.cell? ⟨D, 16, none⟩ = some (F sd fd ld nd pUd pPd pSd pAd 16) := HR.cell (by omega)
  have f16 := HR.frozen 16
  have c18 : w.cell? ⟨D, 18, none⟩ = some (F sd fd ld nd pUd pPd pSd pAd 18) := HR.cell (by omega)
  have f18 := HR.frozen 18
  have HRW := Lib.hid (show ((((((((((((((((w.setCell ⟨D, 4, none⟩ (.string lb)).setCell ⟨D, 5, none⟩ (.string { data := #[] })).setCell ⟨D, 6, none⟩ (.string { data := #[] })).setCell ⟨D, 7, none⟩ (.string { data := #[] })).setCell ⟨D, 8, none⟩ (.string { data := #[] })).setCell ⟨D, 9, none⟩ (.string { data := #[] })).setCell ⟨D, 10, none⟩ (.string { data := #[] })).setCell ⟨D, 11, none⟩ (.string { data := #[] })).setCell ⟨D, 12, none⟩ (.string { data := #[] })).setCell ⟨D, 13, none⟩ (.int .u8 0)).setCell ⟨D, 14, none⟩ (.int .u32 0)).setCell ⟨D, 15, none⟩ (.int .i32 0)).setCell ⟨D, 16, none⟩ (.int .i32 nb)).setCell ⟨D, 18, none⟩ (.pointer (some yA))).setCell ⟨D, 1, none⟩ (.pointer (some yU))).alloc (.cells (cfg sb fb lb nb (some yU) none none (some yA)) 53)).rowIs D 53 29 (F sd fd lb nb (some yU) pPd pSd (some yA)) from
    (World.rowIs.congr (((((((((((((((HR.set 4 (.string lb)).set 5 (.string { data := #[] })).set 6 (.string { data := #[] })).set 7 (.string { data := #[] })).set 8 (.string { data := #[] })).set 9 (.string { data := #[] })).set 10 (.string { data := #[] })).set 11 (.string { data := #[] })).set 12 (.string { data := #[] })).set 13 (.int .u8 0)).set 14 (.int .u32 0)).set 15 (.int .i32 0)).set 16 (.int .i32 nb)).set 18 (.pointer (some yA))).set 1 (.pointer (some yU))) (fun i hi => by
      rcases (show i = 0 ∨ i = 1 ∨ i = 2 ∨ i = 3 ∨ i = 4 ∨ i = 5 ∨ i = 6 ∨ i = 7 ∨ i = 8 ∨ i = 9 ∨ i = 10 ∨ i = 11 ∨ i = 12 ∨ i = 13 ∨ i = 14 ∨ i = 15 ∨ i = 16 ∨ i = 17 ∨ i = 18 ∨ i = 19 ∨ i = 20 ∨ i = 21 ∨ i = 22 ∨ i = 23 ∨ i = 24 ∨ i = 25 ∨ i = 26 ∨ i = 27 ∨ i = 28 by omega) with rfl | rfl | rfl | rfl | rfl | rfl | rfl | rfl | rfl | rfl | rfl | rfl | rfl | rfl | rfl | rfl | rfl | rfl | rfl | rfl | rfl | rfl | rfl | rfl | rfl | rfl | rfl | rfl | rfl <;> rfl)).alloc _)
  have HBW := Lib.hid (show But D w ((((((((((((((((w.setCell ⟨D, 4, none⟩ (.string lb)).setCell ⟨D, 5, none⟩ (.string { data := #[] })).setCell ⟨D, 6, none⟩ (.string { data := #[] })).setCell ⟨D, 7, none⟩ (.string { data := #[] })).setCell ⟨D, 8, none⟩ (.string { data := #[] })).setCell ⟨D, 9, none⟩ (.string { data := #[] })).setCell ⟨D, 10, none⟩ (.string { data := #[] })).setCell ⟨D, 11, none⟩ (.string { data := #[] })).setCell ⟨D, 12, none⟩ (.string { data := #[] })).setCell ⟨D, 13, none⟩ (.int .u8 0)).setCell ⟨D, 14, none⟩ (.int .u32 0)).setCell ⟨D, 15, none⟩ (.int .i32 0)).setCell ⟨D, 16, none⟩ (.int .i32 nb)).setCell ⟨D, 18, none⟩ (.pointer (some yA))).setCell ⟨D, 1, none⟩ (.pointer (some yU))).alloc (.cells (cfg sb fb lb nb (some yU) none none (some yA)) 53)) from
    ((((((((((((((((But.refl D w).trans (But.set D 4 _ (.string lb))).trans (But.set D 5 _ (.string { data := #[] }))).trans (But.set D 6 _ (.string { data := #[] }))).trans (But.set D 7 _ (.string { data := #[] }))).trans (But.set D 8 _ (.string { data := #[] }))).trans (But.set D 9 _ (.string { data := #[] }))).trans (But.set D 10 _ (.string { data := #[] }))).trans (But.set D 11 _ (.string { data := #[] }))).trans (But.set D 12 _ (.string { data := #[] }))).trans (But.set D 13 _ (.int .u8 0))).trans (But.set D 14 _ (.int .u32 0))).trans (But.set D 15 _ (.int .i32 0))).trans (But.set D 16 _ (.int .i32 nb))).trans (But.set D 18 _ (.pointer (some yA)))).trans (But.set D 1 _ (.pointer (some yU)))).trans (But.of_below ((Below.refl _ _).alloc (Nat.le_refl _) _)))
  clear HR
  unfold cfg at HRW HBW ⊢
  go_enter Try.func11, Try.ntmps11
  go_wp2_with fail
  go_region_with ((go_at_call 12; refine (jsx_any _ _).mono ?_; rintro e w1 ⟨rfl, hb1⟩))
  clear c1 f1 c4 f4 c5 f5 c6 f6 c7 f7 c8 f8 c9 f9 c10 f10 c11 f11 c12 f12 c13 f13 c14 f14 c15 f15 c16 f16 c18 f18
  have d23 : w1.cell? ⟨w.heap.size, 23, none⟩ = some (.int .u8 0) := (bcell hb1 (by simp) 23).trans (new_cell _ (by simp) rfl)
  have d24 : w1.cell? ⟨w.heap.size, 24, none⟩ = some (.int .u8 0) := (bcell hb1 (by simp) 24).trans (new_cell _ (by simp) rfl)
  have d25 : w1.cell? ⟨w.heap.size, 25, none⟩ = some (.int .u8 0) := (bcell hb1 (by simp) 25).trans (new_cell _ (by simp) rfl)
  have d26 : w1.cell? ⟨w.heap.size, 26, none⟩ = some (.int .u8 0) := (bcell hb1 (by simp) 26).trans (new_cell _ (by simp) rfl)
  have d27 : w1.cell? ⟨w.heap.size, 27, none⟩ = some (.int .u8 0) := (bcell hb1 (by simp) 27).trans (new_cell _ (by simp) rfl)
  have d28 : w1.cell? ⟨w.heap.size, 28, none⟩ = some (.int .u8 0) := (bcell hb1 (by simp) 28).trans (new_cell _ (by simp) rfl)
  have hz := hb1.size
  simp at hz
  go_wp2_with fail
  go_region_with ((go_at_call 13; refine (settings_any _ _).mono ?_; rintro e w2 ⟨rfl, hb2⟩))
  go_wp2
  go_returns
  exact ⟨rfl, row_keep (row_keep HRW.out.drew hb1).drew hb2, (HBW.out.drew.trans (But.of_below hb1)).drew.trans (But.of_below hb2)⟩
set_option maxRecDepth 100000 in
set_option maxHeartbeats 1000000 in
theorem ext_17 (D : Nat) (w : World) (sd fd ld sb fb lb : ByteArray) (nd nb : Int) (pUd pPd pSd pAd : Option Addr) (yU yP yS yA : Addr) (HR : w.rowIs D 53 29 (F sd fd ld nd pUd pPd pSd pAd)) (hn : 0 < nb) :
    Calls Try.prog 11 #[.pointer (some ⟨D, 0, none⟩), .agg (cfg sb fb lb nb none (some yP) none none)] w fun e w' => e = .returned (.tuple #[]) ∧ w'.rowIs D 53 29 (F sd fb lb nb pUd (some yP) pSd pAd) ∧ But D w w' := by
  have hD := HR.lt
  have c2 : w.cell? ⟨D, 2, none⟩ = some (F sd fd ld nd pUd pPd pSd pAd 2) := HR.cell (by omega)
  have f2 := HR.frozen 2
  have c3 : w.cell? ⟨D, 3, none⟩ = some (F sd fd ld nd pUd pPd pSd pAd 3) := HR.cell (by omega)
  have f3 := HR.frozen 3
  have c4 : w.cell? ⟨D, 4, none⟩ = some (F sd fd ld nd pUd pPd pSd pAd 4) := HR.cell (by omega)
  have f4 := HR.frozen 4
  have c5 : w.cell? ⟨D, 5, none⟩ = some (F sd fd ld nd pUd pPd pSd pAd 5) := HR.cell (by omega)
  have f5 := HR.frozen 5
  have c6 : w.cell? ⟨D, 6, none⟩ = some (F sd fd ld nd pUd pPd pSd pAd 6) := HR.cell (by omega)
  have f6 := HR.frozen 6
  have c7 : w.cell? ⟨D, 7, none⟩ = some (F sd fd ld nd pUd pPd pSd pAd 7) := HR.cell (by omega)
  have f7 := HR.frozen 7
  have c8 : w.cell? ⟨D, 8, none⟩ = some (F sd fd ld nd pUd pPd pSd pAd 8) := HR.cell (by omega)
  have f8 := HR.frozen 8
  have c9 : w.cell? ⟨D, 9, none⟩ = some (F sd fd ld nd pUd pPd pSd pAd 9) := HR.cell (by omega)
  have f9 := HR.frozen 9
  have c10 : w.cell? ⟨D, 10, none⟩ = some (F sd fd ld nd pUd pPd pSd pAd 10) := HR.cell (by omega)
  have f10 := HR.frozen 10
  have c11 : w.cell? ⟨D, 11, none⟩ = some (F sd fd ld nd pUd pPd pSd pAd 11) := HR.cell (by omega)
  have f11 := HR.frozen 11
  have c12 : w.cell? ⟨D, 12, none⟩ = some (F sd fd ld nd pUd pPd pSd pAd 12) := HR.cell (by omega)
  have f12 := HR.frozen 12
  have c13 : w.cell? ⟨D, 13, none⟩ = some (F sd fd ld nd pUd pPd pSd pAd 13) := HR.cell (by omega)
  have f13 := HR.frozen 13
  have c14 : w.cell? ⟨D, 14, none⟩ = some (F sd fd ld nd pUd pPd pSd pAd 14) := HR.cell (by omega)
  have f14 := HR.frozen 14
  have c15 : w.cell? ⟨D, 15, none⟩ = some (F sd fd ld nd pUd pPd pSd pAd 15) := HR.cell (by omega)
  have f15 := HR.frozen 15
  have c16 : w.cell? ⟨D, 16, none⟩ = some (F sd fd ld nd pUd pPd pSd pAd 16) := HR.cell (by omega)
  have f16 := HR.frozen 16
  have HRW := Lib.hid (show ((((((((((((((((w.setCell ⟨D, 4, none⟩ (.string lb)).setCell ⟨D, 5, none⟩ (.string { data := #[] })).setCell ⟨D, 6, none⟩ (.string { data := #[] })).setCell ⟨D, 7, none⟩ (.string { data := #[] })).setCell ⟨D, 8, none⟩ (.string { data := #[] })).setCell ⟨D, 9, none⟩ (.string { data := #[] })).setCell ⟨D, 10, none⟩ (.string { data := #[] })).setCell ⟨D, 11, none⟩ (.string { data := #[] })).setCell ⟨D, 12, none⟩ (.string { data := #[] })).setCell ⟨D, 13, none⟩ (.int .u8 0)).setCell ⟨D, 14, none⟩ (.int .u32 0)).setCell ⟨D, 15, none⟩ (.int .i32 0)).setCell ⟨D, 16, none⟩ (.int .i32 nb)).setCell ⟨D, 3, none⟩ (.pointer (some yP))).setCell ⟨D, 2, none⟩ (.string fb)).alloc (.cells (cfg sb fb lb nb none (some yP) none none) 53)).rowIs D 53 29 (F sd fb lb nb pUd (some yP) pSd pAd) from
    (World.rowIs.congr (((((((((((((((HR.set 4 (.string lb)).set 5 (.string { data := #[] })).set 6 (.string { data := #[] })).set 7 (.string { data := #[] })).set 8 (.string { data := #[] })).set 9 (.string { data := #[] })).set 10 (.string { data := #[] })).set 11 (.string { data := #[] })).set 12 (.string { data := #[] })).set 13 (.int .u8 0)).set 14 (.int .u32 0)).set 15 (.int .i32 0)).set 16 (.int .i32 nb)).set 3 (.pointer (some yP))).set 2 (.string fb)) (fun i hi => by
      rcases (show i = 0 ∨ i = 1 ∨ i = 2 ∨ i = 3 ∨ i = 4 ∨ i = 5 ∨ i = 6 ∨ i = 7 ∨ i = 8 ∨ i = 9 ∨ i = 10 ∨ i = 11 ∨ i = 12 ∨ i = 13 ∨ i = 14 ∨ i = 15 ∨ i = 16 ∨ i = 17 ∨ i = 18 ∨ i = 19 ∨ i = 20 ∨ i = 21 ∨ i = 22 ∨ i = 23 ∨ i = 24 ∨ i = 25 ∨ i = 26 ∨ i = 27 ∨ i = 28 by omega) with rfl | rfl | rfl | rfl | rfl | rfl | rfl | rfl | rfl | rfl | rfl | rfl | rfl | rfl | rfl | rfl | rfl | rfl | rfl | rfl | rfl | rfl | rfl | rfl | rfl | rfl | rfl | rfl | rfl <;> rfl)).alloc _)
  have HBW := Lib.hid (show But D w ((((((((((((((((w.setCell ⟨D, 4, none⟩ (.string lb)).setCell ⟨D, 5, none⟩ (.string { data := #[] })).setCell ⟨D, 6, none⟩ (.string { data := #[] })).setCell ⟨D, 7, none⟩ (.string { data := #[] })).setCell ⟨D, 8, none⟩ (.string { data := #[] })).setCell ⟨D, 9, none⟩ (.string { data := #[] })).setCell ⟨D, 10, none⟩ (.string { data := #[] })).setCell ⟨D, 11, none⟩ (.string { data := #[] })).setCell ⟨D, 12, none⟩ (.string { data := #[] })).setCell ⟨D, 13, none⟩ (.int .u8 0)).setCell ⟨D, 14, none⟩ (.int .u32 0)).setCell ⟨D, 15, none⟩ (.int .i32 0)).setCell ⟨D, 16, none⟩ (.int .i32 nb)).setCell ⟨D, 3, none⟩ (.pointer (some yP))).setCell ⟨D, 2, none⟩ (.string fb)).alloc (.cells (cfg sb fb lb nb none (some yP) none none) 53)) from
    ((((((((((((((((But.refl D w).trans (But.set D 4 _ (.string lb))).trans (But.set D 5 _ (.string { data := #[] }))).trans (But.set D 6 _ (.string { data := #[] }))).trans (But.set D 7 _ (.string { data := #[] }))).trans (But.set D 8 _ (.string { data := #[] }))).trans (But.set D 9 _ (.string { data := #[] }))).trans (But.set D 10 _ (.string { data := #[] }))).trans (But.set D 11 _ (.string { data := #[] }))).trans (But.set D 12 _ (.string { data := #[] }))).trans (But.set D 13 _ (.int .u8 0))).trans (But.set D 14 _ (.int .u32 0))).trans (But.set D 15 _ (.int .i32 0))).trans (But.set D 16 _ (.int .i32 nb))).trans (But.set D 3 _ (.pointer (some yP)))).trans (But.set D 2 _ (.string fb))).trans (But.of_below ((Below.refl _ _).alloc (Nat.le_refl _) _)))
  clear HR
  unfold cfg at HRW HBW ⊢
  go_enter Try.func11, Try.ntmps11
  go_wp2_with fail
  go_region_with ((go_at_call 12; refine (jsx_any _ _).mono ?_; rintro e w1 ⟨rfl, hb1⟩))
  clear c2 f2 c3 f3 c4 f4 c5 f5 c6 f6 c7 f7 c8 f8 c9 f9 c10 f10 c11 f11 c12 f12 c13 f13 c14 f14 c15 f15 c16 f16
  have d23 : w1.cell? ⟨w.heap.size, 23, none⟩ = some (.int .u8 0) := (bcell hb1 (by simp) 23).trans (new_cell _ (by simp) rfl)
  have d24 : w1.cell? ⟨w.heap.size, 24, none⟩ = some (.int .u8 0) := (bcell hb1 (by simp) 24).trans (new_cell _ (by simp) rfl)
  have d25 : w1.cell? ⟨w.heap.size, 25, none⟩ = some (.int .u8 0) := (bcell hb1 (by simp) 25).trans (new_cell _ (by simp) rfl)
  have d26 : w1.cell? ⟨w.heap.size, 26, none⟩ = some (.int .u8 0) := (bcell hb1 (by simp) 26).trans (new_cell _ (by simp) rfl)
  have d27 : w1.cell? ⟨w.heap.size, 27, none⟩ = some (.int .u8 0) := (bcell hb1 (by simp) 27).trans (new_cell _ (by simp) rfl)
  have d28 : w1.cell? ⟨w.heap.size, 28, none⟩ = some (.int .u8 0) := (bcell hb1 (by simp) 28).trans (new_cell _ (by simp) rfl)
  have hz := hb1.size
  simp at hz
  go_wp2_with fail
  go_region_with ((go_at_call 13; refine (settings_any _ _).mono ?_; rintro e w2 ⟨rfl, hb2⟩))
  go_wp2
  go_returns
  exact ⟨rfl, row_keep (row_keep HRW.out.drew hb1).drew hb2, (HBW.out.drew.trans (But.of_below hb1)).drew.trans (But.of_below hb2)⟩
set_option maxRecDepth 100000 in
set_option maxHeartbeats 1000000 in
theorem ext_21 (D : Nat) (w : World) (sd fd ld sb fb lb : ByteArray) (nd nb : Int) (pUd pPd pSd pAd : Option Addr) (yU yP yS yA : Addr) (HR : w.rowIs D 53 29 (F sd fd ld nd pUd pPd pSd pAd)) (hn : 0 < nb) :
    Calls Try.prog 11 #[.pointer (some ⟨D, 0, none⟩), .agg (cfg sb fb lb nb none (some yP) none (some yA))] w fun e w' => e = .returned (.tuple #[]) ∧ w'.rowIs D 53 29 (F sd fb lb nb pUd (some yP) pSd (some yA)) ∧ But D w w' := by
  have hD := HR.lt
  have c2 : w.cell? ⟨D, 2, none⟩ = some (F sd fd ld nd pUd pPd pSd pAd 2) := HR.cell (by omega)
  have f2 := HR.frozen 2
  have c3 : w.cell? ⟨D, 3, none⟩ = some (F sd fd ld nd pUd pPd pSd pAd 3) := HR.cell (by omega)
  have f3 := HR.frozen 3
  have c4 : w.cell? ⟨D, 4, none⟩ = some (F sd fd ld nd pUd pPd pSd pAd 4) := HR.cell (by omega)
  have f4 := HR.frozen 4
  have c5 : w.cell? ⟨D, 5, none⟩ = some (F sd fd ld nd pUd pPd pSd pAd 5) := HR.cell (by omega)
  have f5 := HR.frozen 5
  have c6 : w.cell? ⟨D, 6, none⟩ = some (F sd fd ld nd pUd pPd pSd pAd 6) := HR.cell (by omega)
  have f6 := HR.frozen 6
  have c7 : w.cell? ⟨D, 7, none⟩ = some (F sd fd ld nd pUd pPd pSd pAd 7) := HR.cell (by omega)
  have f7 := HR.frozen 7
  have c8 : w.cell? ⟨D, 8, none⟩ = some (F sd fd ld nd pUd pPd pSd pAd 8) := HR.cell (by omega)
  have f8 := HR.frozen 8
  have c9 : w.cell? ⟨D, 9, none⟩ = some (F sd fd ld nd pUd pPd pSd pAd 9) := HR.cell (by omega)
  have f9 := HR.frozen 9
  have c10 : w.cell? ⟨D, 10, none⟩ = some (F sd fd ld nd pUd pPd pSd pAd 10) := HR.cell (by omega)
  have f10 := HR.frozen 10
  have c11 : w.cell? ⟨D, 11, none⟩ = some (F sd fd ld nd pUd pPd pSd pAd 11) := HR.cell (by omega)
  have f11 := HR.frozen 11
  have c12 : w.cell? ⟨D, 12, none⟩ = some (F sd fd ld nd pUd pPd pSd pAd 12) := HR.cell (by omega)
  have f12 := HR.frozen 12
  have c13 : w.cell? ⟨D, 13, none⟩ = some (F sd fd ld nd pUd pPd pSd pAd 13) := HR.cell (by omega)
  have f13 := HR.frozen 13
  have c14 : w.cell? ⟨D, 14, none⟩ = some (F sd fd ld nd pUd pPd pSd pAd 14) := HR.cell (by omega)
  have f14 := HR.frozen 14
  have c15 : w.cell? ⟨D, 15, none⟩ = some (F sd fd ld nd pUd pPd pSd pAd 15) := HR.cell (by omega)
  have f15 := HR.frozen 15
  have c16 : w.cell? ⟨D, 16, none⟩ = some (F sd fd ld nd pUd pPd pSd pAd 16) := HR.cell (by omega)
  have f16 := HR.frozen 16
  have c18 : w.cell? ⟨D, 18, none⟩ = some (F sd fd ld nd pUd pPd pSd pAd 18) := HR.cell (by omega)
  have f18 := HR.frozen 18
  have HRW := Lib.hid (show (((((((((((((((((w.setCell ⟨D, 4, none⟩ (.string lb)).setCell ⟨D, 5, none⟩ (.string { data := #[] })).setCell ⟨D, 6, none⟩ (.string { data := #[] })).setCell ⟨D, 7, none⟩ (.string { data := #[] })).setCell ⟨D, 8, none⟩ (.string { data := #[] })).setCell ⟨D, 9, none⟩ (.string { data := #[] })).setCell ⟨D, 10, none⟩ (.string { data := #[] })).setCell ⟨D, 11, none⟩ (.string { data := #[] })).setCell ⟨D, 12, none⟩ (.string { data := #[] })).setCell ⟨D, 13, none⟩ (.int .u8 0)).setCell ⟨D, 14, none⟩ (.int .u32 0)).setCell ⟨D, 15, none⟩ (.int .i32 0)).setCell ⟨D, 16, none⟩ (.int .i32 nb)).setCell ⟨D, 18, none⟩ (.pointer (some yA))).setCell ⟨D, 3, none⟩ (.pointer (some yP))).setCell ⟨D, 2, none⟩ (.string fb)).alloc (.cells (cfg sb fb lb nb none (some yP) none (some yA)) 53)).rowIs D 53 29 (F sd fb lb nb pUd (some yP) pSd (some yA)) from
    (World.rowIs.congr ((((((((((((((((HR.set 4 (.string lb)).set 5 (.string { data := #[] })).set 6 (.string { data := #[] })).set 7 (.string { data := #[] })).set 8 (.string { data := #[] })).set 9 (.string { data := #[] })).set 10 (.string { data := #[] })).set 11 (.string { data := #[] })).set 12 (.string { data := #[] })).set 13 (.int .u8 0)).set 14 (.int .u32 0)).set 15 (.int .i32 0)).set 16 (.int .i32 nb)).set 18 (.pointer (some yA))).set 3 (.pointer (some yP))).set 2 (.string fb)) (fun i hi => by
      rcases (show i = 0 ∨ i = 1 ∨ i = 2 ∨ i = 3 ∨ i = 4 ∨ i = 5 ∨ i = 6 ∨ i = 7 ∨ i = 8 ∨ i = 9 ∨ i = 10 ∨ i = 11 ∨ i = 12 ∨ i = 13 ∨ i = 14 ∨ i = 15 ∨ i = 16 ∨ i = 17 ∨ i = 18 ∨ i = 19 ∨ i = 20 ∨ i = 21 ∨ i = 22 ∨ i = 23 ∨ i = 24 ∨ i = 25 ∨ i = 26 ∨ i = 27 ∨ i = 28 by omega) with rfl | rfl | rfl | rfl | rfl | rfl | rfl | rfl | rfl | rfl | rfl | rfl | rfl | rfl | rfl | rfl | rfl | rfl | rfl | rfl | rfl | rfl | rfl | rfl | rfl | rfl | rfl | rfl | rfl <;> rfl)).alloc _)
  have HBW := Lib.hid (show But D w (((((((((((((((((w.setCell ⟨D, 4, none⟩ (.string lb)).setCell ⟨D, 5, none⟩ (.string { data := #[] })).setCell ⟨D, 6, none⟩ (.string { data := #[] })).setCell ⟨D, 7, none⟩ (.string { data := #[] })).setCell ⟨D, 8, none⟩ (.string { data := #[] })).setCell ⟨D, 9, none⟩ (.string { data := #[] })).setCell ⟨D, 10, none⟩ (.string { data := #[] })).setCell ⟨D, 11, none⟩ (.string { data := #[] })).setCell ⟨D, 12, none⟩ (.string { data := #[] })).setCell ⟨D, 13, none⟩ (.int .u8 0)).setCell ⟨D, 14, none⟩ (.int .u32 0)).setCell ⟨D, 15, none⟩ (.int .i32 0)).setCell ⟨D, 16, none⟩ (.int .i32 nb)).setCell ⟨D, 18, none⟩ (.pointer (some yA))).setCell ⟨D, 3, none⟩ (.pointer (some yP))).setCell ⟨D, 2, none⟩ (.string fb)).alloc (.cells (cfg sb fb lb nb none (some yP) none (some yA)) 53)) from
    (((((((((((((((((But.refl D w).trans (But.set D 4 _ (.string lb))).trans (But.set D 5 _ (.string { data := #[] }))).trans (But.set D 6 _ (.string { data := #[] }))).trans (But.set D 7 _ (.string { data := #[] }))).trans (But.set D 8 _ (.string { data := #[] }))).trans (But.set D 9 _ (.string { data := #[] }))).trans (But.set D 10 _ (.string { data := #[] }))).trans (But.set D 11 _ (.string { data := #[] }))).trans (But.set D 12 _ (.string { data := #[] }))).trans (But.set D 13 _ (.int .u8 0))).trans (But.set D 14 _ (.int .u32 0))).trans (But.set D 15 _ (.int .i32 0))).trans (But.set D 16 _ (.int .i32 nb))).trans (But.set D 18 _ (.pointer (some yA)))).trans (But.set D 3 _ (.pointer (some yP)))).trans (But.set D 2 _ (.string fb))).trans (But.of_below ((Below.refl _ _).alloc (Nat.le_refl _) _)))
  clear HR
  unfold cfg at HRW HBW ⊢
  go_enter Try.func11, Try.ntmps11
  go_wp2_with fail
  go_region_with ((go_at_call 12; refine (jsx_any _ _).mono ?_; rintro e w1 ⟨rfl, hb1⟩))
  clear c2 f2 c3 f3 c4 f4 c5 f5 c6 f6 c7 f7 c8 f8 c9 f9 c10 f10 c11 f11 c12 f12 c13 f13 c14 f14 c15 f15 c16 f16 c18 f18
  have d23 : w1.cell? ⟨w.heap.size, 23, none⟩ = some (.int .u8 0) := (bcell hb1 (by simp) 23).trans (new_cell _ (by simp) rfl)
  have d24 : w1.cell? ⟨w.heap.size, 24, none⟩ = some (.int .u8 0) := (bcell hb1 (by simp) 24).trans (new_cell _ (by simp) rfl)
  have d25 : w1.cell? ⟨w.heap.size, 25, none⟩ = some (.int .u8 0) := (bcell hb1 (by simp) 25).trans (new_cell _ (by simp) rfl)
  have d26 : w1.cell? ⟨w.heap.size, 26, none⟩ = some (.int .u8 0) := (bcell hb1 (by simp) 26).trans (new_cell _ (by simp) rfl)
  have d27 : w1.cell? ⟨w.heap.size, 27, none⟩ = some (.int .u8 0) := (bcell hb1 (by simp) 27).trans (new_cell _ (by simp) rfl)
  have d28 : w1.cell? ⟨w.heap.size, 28, none⟩ = some (.int .u8 0) := (bcell hb1 (by simp) 28).trans (new_cell _ (by simp) rfl)
  have hz := hb1.size
  simp at hz
  go_wp2_with fail
  go_region_with ((go_at_call 13; refine (settings_any _ _).mono ?_; rintro e w2 ⟨rfl, hb2⟩))
  go_wp2
  go_returns
  exact ⟨rfl, row_keep (row_keep HRW.out.drew hb1).drew hb2, (HBW.out.drew.trans (But.of_below hb1)).drew.trans (But.of_below hb2)⟩
set_option maxRecDepth 100000 in
set_option maxHeartbeats 1000000 in
theorem ext_25 (D : Nat) (w : World) (sd fd ld sb fb lb : ByteArray) (nd nb : Int) (pUd pPd pSd pAd : Option Addr) (yU yP yS yA : Addr) (HR : w.rowIs D 53 29 (F sd fd ld nd pUd pPd pSd pAd)) (hn : 0 < nb) :
    Calls Try.prog 11 #[.pointer (some ⟨D, 0, none⟩), .agg (cfg sb fb lb nb (some yU) (some yP) none none)] w fun e w' => e = .returned (.tuple #[]) ∧ w'.rowIs D 53 29 (F sd fb lb nb (some yU) (some yP) pSd pAd) ∧ But D w w' := by
  have hD := HR.lt
  have c1 : w.cell? ⟨D, 1, none⟩ = some (F sd fd ld nd pUd pPd pSd pAd 1) := HR.cell (by omega)
  have f1 := HR.frozen 1
  have c2 : w.cell? ⟨D, 2, none⟩ = some (F sd fd ld nd pUd pPd pSd pAd 2) := HR.cell (by omega)
  have f2 := HR.frozen 2
  have c3 : w.cell? ⟨D, 3, none⟩ = some (F sd fd ld nd pUd pPd pSd pAd 3) := HR.cell (by omega)
  have f3 := HR.frozen 3
  have c4 : w.cell? ⟨D, 4, none⟩ = some (F sd fd ld nd pUd pPd pSd pAd 4) := HR.cell (by omega)
  have f4 := HR.frozen 4
  have c5 : w.cell? ⟨D, 5, none⟩ = some (F sd fd ld nd pUd pPd pSd pAd 5) := HR.cell (by omega)
  have f5 := HR.frozen 5
  have c6 : w.cell? ⟨D, 6, none⟩ = some (F sd fd ld nd pUd pPd pSd pAd 6) := HR.cell (by omega)
  have f6 := HR.frozen 6
  have c7 : w.cell? ⟨D, 7, none⟩ = some (F sd fd ld nd pUd pPd pSd pAd 7) := HR.cell (by omega)
  have f7 := HR.frozen 7
  have c8 : w.cell? ⟨D, 8, none⟩ = some (F sd fd ld nd pUd pPd pSd pAd 8) := HR.cell (by omega)
  have f8 := HR.frozen 8
  have c9 : w.cell? ⟨D, 9, none⟩ = some (F sd fd ld nd pUd pPd pSd pAd 9) := HR.cell (by omega)
  have f9 := HR.frozen 9
  have c10 : w.cell? ⟨D, 10, none⟩ = some (F sd fd ld nd pUd pPd pSd pAd 10) := HR.cell (by omega)
  have f10 := HR.frozen 10
  have c11 : w.cell? ⟨D, 11, none⟩ = some (F sd fd ld nd pUd pPd pSd pAd 11) := HR.cell (by omega)
  have f11 := HR.frozen 11
  have c12 : w.cell? ⟨D, 12, none⟩ = some (F sd fd ld nd pUd pPd pSd pAd 12) := HR.cell (by omega)
  have f12 := HR.frozen 12
  have c13 : w.cell? ⟨D, 13, none⟩ = some (F sd fd ld nd pUd pPd pSd pAd 13) := HR.cell (by omega)
  have f13 := HR.frozen 13
  have c14 : w.cell? ⟨D, 14, none⟩ = some (F sd fd ld nd pUd pPd pSd pAd 14) := HR.cell (by omega)
  have f14 := HR.frozen 14
  have c15 : w.cell? ⟨D, 15, none⟩ = some (F sd fd ld nd pUd pPd pSd pAd 15) := HR.cell (by omega)
  have f15 := HR.frozen 15
  have c16 : w.cell? ⟨D, 16, none⟩ = some (F sd fd ld nd pUd pPd pSd pAd 16) := HR.cell (by omega)
  have f16 := HR.frozen 16
  have HRW := Lib.hid (show (((((((((((((((((w.setCell ⟨D, 4, none⟩ (.string lb)).setCell ⟨D, 5, none⟩ (.string { data := #[] })).setCell ⟨D, 6, none⟩ (.string { data := #[] })).setCell ⟨D, 7, none⟩ (.string { data := #[] })).setCell ⟨D, 8, none⟩ (.string { data := #[] })).setCell ⟨D, 9, none⟩ (.string { data := #[] })).setCell ⟨D, 10, none⟩ (.string { data := #[] })).setCell ⟨D, 11, none⟩ (.string { data := #[] })).setCell ⟨D, 12, none⟩ (.string { data := #[] })).setCell ⟨D, 13, none⟩ (.int .u8 0)).setCell ⟨D, 14, none⟩ (.int .u32 0)).setCell ⟨D, 15, none⟩ (.int .i32 0)).setCell ⟨D, 16, none⟩ (.int .i32 nb)).setCell ⟨D, 1, none⟩ (.pointer (some yU))).setCell ⟨D, 3, none⟩ (.pointer (some yP))).setCell ⟨D, 2, none⟩ (.string fb)).alloc (.cells (cfg sb fb lb nb (some yU) (some yP) none none) 53)).rowIs D 53 29 (F sd fb lb nb (some yU) (some yP) pSd pAd) from
    (World.rowIs.congr ((((((((((((((((HR.set 4 (.string lb)).set 5 (.string { data := #[] })).set 6 (.string { data := #[] })).set 7 (.string { data := #[] })).set 8 (.string { data := #[] })).set 9 (.string { data := #[] })).set 10 (.string { data := #[] })).set 11 (.string { data := #[] })).set 12 (.string { data := #[] })).set 13 (.int .u8 0)).set 14 (.int .u32 0)).set 15 (.int .i32 0)).set 16 (.int .i32 nb)).set 1 (.pointer (some yU))).set 3 (.pointer (some yP))).set 2 (.string fb)) (fun i hi => by
      rcases (show i = 0 ∨ i = 1 ∨ i = 2 ∨ i = 3 ∨ i = 4 ∨ i = 5 ∨ i = 6 ∨ i = 7 ∨ i = 8 ∨ i = 9 ∨ i = 10 ∨ i = 11 ∨ i = 12 ∨ i = 13 ∨ i = 14 ∨ i = 15 ∨ i = 16 ∨ i = 17 ∨ i = 18 ∨ i = 19 ∨ i = 20 ∨ i = 21 ∨ i = 22 ∨ i = 23 ∨ i = 24 ∨ i = 25 ∨ i = 26 ∨ i = 27 ∨ i = 28 by omega) with rfl | rfl | rfl | rfl | rfl | rfl | rfl | rfl | rfl | rfl | rfl | rfl | rfl | rfl | rfl | rfl | rfl | rfl | rfl | rfl | rfl | rfl | rfl | rfl | rfl | rfl | rfl | rfl | rfl <;> rfl)).alloc _)
  have HBW := Lib.hid (show But D w (((((((((((((((((w.setCell ⟨D, 4, none⟩ (.string lb)).setCell ⟨D, 5, none⟩ (.string { data := #[] })).setCell ⟨D, 6, none⟩ (.string { data := #[] })).setCell ⟨D, 7, none⟩ (.string { data := #[] })).setCell ⟨D, 8, none⟩ (.string { data := #[] })).setCell ⟨D, 9, none⟩ (.string { data := #[] })).setCell ⟨D, 10, none⟩ (.string { data := #[] })).setCell ⟨D, 11, none⟩ (.string { data := #[] })).setCell ⟨D, 12, none⟩ (.string { data := #[] })).setCell ⟨D, 13, none⟩ (.int .u8 0)).setCell ⟨D, 14, none⟩ (.int .u32 0)).setCell ⟨D, 15, none⟩ (.int .i32 0)).setCell ⟨D, 16, none⟩ (.int .i32 nb)).setCell ⟨D, 1, none⟩ (.pointer (some yU))).setCell ⟨D, 3, none⟩ (.pointer (some yP))).setCell ⟨D, 2, none⟩ (.string fb)).alloc (.cells (cfg sb fb lb nb (some yU) (some yP) none none) 53)) from
    (((((((((((((((((But.refl D w).trans (But.set D 4 _ (.string lb))).trans (But.set D 5 _ (.string { data := #[] }))).trans (But.set D 6 _ (.string { data := #[] }))).trans (But.set D 7 _ (.string { data := #[] }))).trans (But.set D 8 _ (.string { data := #[] }))).trans (But.set D 9 _ (.string { data := #[] }))).trans (But.set D 10 _ (.string { data := #[] }))).trans (But.set D 11 _ (.string { data := #[] }))).trans (But.set D 12 _ (.string { data := #[] }))).trans (But.set D 13 _ (.int .u8 0))).trans (But.set D 14 _ (.int .u32 0))).trans (But.set D 15 _ (.int .i32 0))).trans (But.set D 16 _ (.int .i32 nb))).trans (But.set D 1 _ (.pointer (some yU)))).trans (But.set D 3 _ (.pointer (some yP)))).trans (But.set D 2 _ (.string fb))).trans (But.of_below ((Below.refl _ _).alloc (Nat.le_refl _) _)))
  clear HR
  unfold cfg at HRW HBW ⊢
  go_enter Try.func11, Try.ntmps11
  go_wp2_with fail
  go_region_with ((go_at_call 12; refine (jsx_any _ _).mono ?_; rintro e w1 ⟨rfl, hb1⟩))
  clear c1 f1 c2 f2 c3 f3 c4 f4 c5 f5 c6 f6 c7 f7 c8 f8 c9 f9 c10 f10 c11 f11 c12 f12 c13 f13 c14 f14 c15 f15 c16 f16
  have d23 : w1.cell? ⟨w.heap.size, 23, none⟩ = some (.int .u8 0) := (bcell hb1 (by simp) 23).trans (new_cell _ (by simp) rfl)
  have d24 : w1.cell? ⟨w.heap.size, 24, none⟩ = some (.int .u8 0) := (bcell hb1 (by simp) 24).trans (new_cell _ (by simp) rfl)
  have d25 : w1.cell? ⟨w.heap.size, 25, none⟩ = some (.int .u8 0) := (bcell hb1 (by simp) 25).trans (new_cell _ (by simp) rfl)
  have d26 : w1.cell? ⟨w.heap.size, 26, none⟩ = some (.int .u8 0) := (bcell hb1 (by simp) 26).trans (new_cell _ (by simp) rfl)
  have d27 : w1.cell? ⟨w.heap.size, 27, none⟩ = some (.int .u8 0) := (bcell hb1 (by simp) 27).trans (new_cell _ (by simp) rfl)
  have d28 : w1.cell? ⟨w.heap.size, 28, none⟩ = some (.int .u8 0) := (bcell hb1 (by simp) 28).trans (new_cell _ (by simp) rfl)
  have hz := hb1.size
  simp at hz
  go_wp2_with fail
  go_region_with ((go_at_call 13; refine (settings_any _ _).mono ?_; rintro e w2 ⟨rfl, hb2⟩))
  go_wp2
  go_returns
  exact ⟨rfl, row_keep (row_keep HRW.out.drew hb1).drew hb2, (HBW.out.drew.trans (But.of_below hb1)).drew.trans (But.of_below hb2)⟩
set_option maxRecDepth 100000 in
set_option maxHeartbeats 1000000 in
theorem ext_29 (D : Nat) (w : World) (sd fd ld sb fb lb : ByteArray) (nd nb : Int) (pUd pPd pSd pAd : Option Addr) (yU yP yS yA : Addr) (HR : w.rowIs D 53 29 (F sd fd ld nd pUd pPd pSd pAd)) (hn : 0 < nb) :
    Calls Try.prog 11 #[.pointer (some ⟨D, 0, none⟩), .agg (cfg sb fb lb nb (some yU) (some yP) none (some yA))] w fun e w' => e = .returned (.tuple #[]) ∧ w'.rowIs D 53 29 (F sd fb lb nb (some yU) (some yP) pSd (some yA)) ∧ But D w w' := by
  have hD := HR.lt
  have c1 : w.cell? ⟨D, 1, none⟩ = some (F sd fd ld nd pUd pPd pSd pAd 1) := HR.cell (by omega)
  have f1 := HR.frozen 1
  have c2 : w.cell? ⟨D, 2, none⟩ = some (F sd fd ld nd pUd pPd pSd pAd 2) := HR.cell (by omega)
  have f2 := HR.frozen 2
  have c3 : w.cell? ⟨D, 3, none⟩ = some (F sd fd ld nd pUd pPd pSd pAd 3) := HR.cell (by omega)
  have f3 := HR.frozen 3
  have c4 : w.cell? ⟨D, 4, none⟩ = some (F sd fd ld nd pUd pPd pSd pAd 4) := HR.cell (by omega)
  have f4 := HR.frozen 4
  have c5 : w.cell? ⟨D, 5, none⟩ = some (F sd fd ld nd pUd pPd pSd pAd 5) := HR.cell (by omega)
  have f5 := HR.frozen 5
  have c6 : w.cell? ⟨D, 6, none⟩ = some (F sd fd ld nd pUd pPd pSd pAd 6) := HR.cell (by omega)
  have f6 := HR.frozen 6
  have c7 : w.cell? ⟨D, 7, none⟩ = some (F sd fd ld nd pUd pPd pSd pAd 7) := HR.cell (by omega)
  have f7 := HR.frozen 7
  have c8 : w.cell? ⟨D, 8, none⟩ = some (F sd fd ld nd pUd pPd pSd pAd 8) := HR.cell (by omega)
  have f8 := HR.frozen 8
  have c9 : w.cell? ⟨D, 9, none⟩ = some (F sd fd ld nd pUd pPd pSd pAd 9) := HR.cell (by omega)
  have f9 := HR.frozen 9
  have c10 : w.cell? ⟨D, 10, none⟩ = some (F sd fd ld nd pUd pPd pSd pAd 10) := HR.cell (by omega)
  have f10 := HR.frozen 10
  have c11 : w.cell? ⟨D, 11, none⟩ = some (F sd fd ld nd pUd pPd pSd pAd 11) := HR.cell (by omega)
  have f11 := HR.frozen 11
  have c12 : w.cell? ⟨D, 12, none⟩ = some (F sd fd ld nd pUd pPd pSd pAd 12) := HR.cell (by omega)
  have f12 := HR.frozen 12
  have c13 : w.cell? ⟨D, 13, none⟩ = some (F sd fd ld nd pUd pPd pSd pAd 13) := HR.cell (by omega)
  have f13 := HR.frozen 13
  have c14 : w.cell? ⟨D, 14, none⟩ = some (F sd fd ld nd pUd pPd pSd pAd 14) := HR.cell (by omega)
  have f14 := HR.frozen 14
  have c15 : w.cell? ⟨D, 15, none⟩ = some (F sd fd ld nd pUd pPd pSd pAd 15) := HR.cell (by omega)
  have f15 := HR.frozen 15
  have c16 : w.cell? ⟨D, 16, none⟩ = some (F sd fd ld nd pUd pPd pSd pAd 16) := HR.cell (by omega)
  have f16 := HR.frozen 16
  have c18 : w.cell? ⟨D, 18, none⟩ = some (F sd fd ld nd pUd pPd pSd pAd 18) := HR.cell (by omega)
  have f18 := HR.frozen 18
  have HRW := Lib.hid (show ((((((((((((((((((w.setCell ⟨D, 4, none⟩ (.string lb)).setCell ⟨D, 5, none⟩ (.string { data := #[] })).setCell ⟨D, 6, none⟩ (.string { data := #[] })).setCell ⟨D, 7, none⟩ (.string { data := #[] })).setCell ⟨D, 8, none⟩ (.string { data := #[] })).setCell ⟨D, 9, none⟩ (.string { data := #[] })).setCell ⟨D, 10, none⟩ (.string { data := #[] })).setCell ⟨D, 11, none⟩ (.string { data := #[] })).setCell ⟨D, 12, none⟩ (.string { data := #[] })).setCell ⟨D, 13, none⟩ (.int .u8 0)).setCell ⟨D, 14, none⟩ (.int .u32 0)).setCell ⟨D, 15, none⟩ (.int .i32 0)).setCell ⟨D, 16, none⟩ (.int .i32 nb)).setCell ⟨D, 18, none⟩ (.pointer (some yA))).setCell ⟨D, 1, none⟩ (.pointer (some yU))).setCell ⟨D, 3, none⟩ (.pointer (some yP))).setCell ⟨D, 2, none⟩ (.string fb)).alloc (.cells (cfg sb fb lb nb (some yU) (some yP) none (some yA)) 53)).rowIs D 53 29 (F sd fb lb nb (some yU) (some yP) pSd (some yA)) from
    (World.rowIs.congr (((((((((((((((((HR.set 4 (.string lb)).set 5 (.string { data := #[] })).set 6 (.string { data := #[] })).set 7 (.string { data := #[] })).set 8 (.string { data := #[] })).set 9 (.string { data := #[] })).set 10 (.string { data := #[] })).set 11 (.string { data := #[] })).set 12 (.string { data := #[] })).set 13 (.int .u8 0)).set 14 (.int .u32 0)).set 15 (.int .i32 0)).set 16 (.int .i32 nb)).set 18 (.pointer (some yA))).set 1 (.pointer (some yU))).set 3 (.pointer (some yP))).set 2 (.string fb)) (fun i hi => by
      rcases (show i = 0 ∨ i = 1 ∨ i = 2 ∨ i = 3 ∨ i = 4 ∨ i = 5 ∨ i = 6 ∨ i = 7 ∨ i = 8 ∨ i = 9 ∨ i = 10 ∨ i = 11 ∨ i = 12 ∨ i = 13 ∨ i = 14 ∨ i = 15 ∨ i = 16 ∨ i = 17 ∨ i = 18 ∨ i = 19 ∨ i = 20 ∨ i = 21 ∨ i = 22 ∨ i = 23 ∨ i = 24 ∨ i = 25 ∨ i = 26 ∨ i = 27 ∨ i = 28 by omega) with rfl | rfl | rfl | rfl | rfl | rfl | rfl | rfl | rfl | rfl | rfl | rfl | rfl | rfl | rfl | rfl | rfl | rfl | rfl | rfl | rfl | rfl | rfl | rfl | rfl | rfl | rfl | rfl | rfl <;> rfl)).alloc _)
  have HBW := Lib.hid (show But D w ((((((((((((((((((w.setCell ⟨D, 4, none⟩ (.string lb)).setCell ⟨D, 5, none⟩ (.string { data := #[] })).setCell ⟨D, 6, none⟩ (.string { data := #[] })).setCell ⟨D, 7, none⟩ (.string { data := #[] })).setCell ⟨D, 8, none⟩ (.string { data := #[] })).setCell ⟨D, 9, none⟩ (.string { data := #[] })).setCell ⟨D, 10, none⟩ (.string { data := #[] })).setCell ⟨D, 11, none⟩ (.string { data := #[] })).setCell ⟨D, 12, none⟩ (.string { data := #[] })).setCell ⟨D, 13, none⟩ (.int .u8 0)).setCell ⟨D, 14, none⟩ (.int .u32 0)).setCell ⟨D, 15, none⟩ (.int .i32 0)).setCell ⟨D, 16, none⟩ (.int .i32 nb)).setCell ⟨D, 18, none⟩ (.pointer (some yA))).setCell ⟨D, 1, none⟩ (.pointer (some yU))).setCell ⟨D, 3, none⟩ (.pointer (some yP))).setCell ⟨D, 2, none⟩ (.string fb)).alloc (.cells (cfg sb fb lb nb (some yU) (some yP) none (some yA)) 53)) from
    ((((((((((((((((((But.refl D w).trans (But.set D 4 _ (.string lb))).trans (But.set D 5 _ (.string { data := #[] }))).trans (But.set D 6 _ (.string { data := #[] }))).trans (But.set D 7 _ (.string { data := #[] }))).trans (But.set D 8 _ (.string { data := #[] }))).trans (But.set D 9 _ (.string { data := #[] }))).trans (But.set D 10 _ (.string { data := #[] }))).trans (But.set D 11 _ (.string { data := #[] }))).trans (But.set D 12 _ (.string { data := #[] }))).trans (But.set D 13 _ (.int .u8 0))).trans (But.set D 14 _ (.int .u32 0))).trans (But.set D 15 _ (.int .i32 0))).trans (But.set D 16 _ (.int .i32 nb))).trans (But.set D 18 _ (.pointer (some yA)))).trans (But.set D 1 _ (.pointer (some yU)))).trans (But.set D 3 _ (.pointer (some yP)))).trans (But.set D 2 _ (.string fb))).trans (But.of_below ((Below.refl _ _).alloc (Nat.le_refl _) _)))
  clear HR
  unfold cfg at HRW HBW ⊢
  go_enter Try.func11, Try.ntmps11
  go_wp2_with fail
  go_region_with ((go_at_call 12; refine (jsx_any _ _).mono ?_; rintro e w1 ⟨rfl, hb1⟩))
  clear c1 f1 c2 f2 c3 f3 c4 f4 c5 f5 c6 f6 c7 f7 c8 f8 c9 f9 c10 f10 c11 f11 c12 f12 c13 f13 c14 f14 c15 f15 c16 f16 c18 f18
  have d23 : w1.cell? ⟨w.heap.size, 23, none⟩ = some (.int .u8 0) := (bcell hb1 (by simp) 23).trans (new_cell _ (by simp) rfl)
  have d24 : w1.cell? ⟨w.heap.size, 24, none⟩ = some (.int .u8 0) := (bcell hb1 (by simp) 24).trans (new_cell _ (by simp) rfl)
  have d25 : w1.cell? ⟨w.heap.size, 25, none⟩ = some (.int .u8 0) := (bcell hb1 (by simp) 25).trans (new_cell _ (by simp) rfl)
  have d26 : w1.cell? ⟨w.heap.size, 26, none⟩ = some (.int .u8 0) := (bcell hb1 (by simp) 26).trans (new_cell _ (by simp) rfl)
  have d27 : w1.cell? ⟨w.heap.size, 27, none⟩ = some (.int .u8 0) := (bcell hb1 (by simp) 27).trans (new_cell _ (by simp) rfl)
  have d28 : w1.cell? ⟨w.heap.size, 28, none⟩ = some (.int .u8 0) := (bcell hb1 (by simp) 28).trans (new_cell _ (by simp) rfl)
  have hz := hb1.size
  simp at hz
  go_wp2_with fail
  go_region_with ((go_at_call 13; refine (settings_any _ _).mono ?_; rintro e w2 ⟨rfl, hb2⟩))
  go_wp2
  go_returns
  exact ⟨rfl, row_keep (row_keep HRW.out.drew hb1).drew hb2, (HBW.out.drew.trans (But.of_below hb1)).drew.trans (But.of_below hb2)⟩
end Go.Proofs.Ytidigkkkdaeblaa.Ext
