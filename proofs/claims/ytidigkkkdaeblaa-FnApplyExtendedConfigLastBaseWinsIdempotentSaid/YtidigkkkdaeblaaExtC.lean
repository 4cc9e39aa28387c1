/- Eight of the thirty-two ways through applyExtendedConfig. No condition. -/
import Derived.Test.YtidigkkkdaeblaaExt
namespace Go.Proofs.Ytidigkkkdaeblaa.Ext
open Go.ChangeShapes Go.WideShapes Go.ChangeAt Go.RowKit Go.Deep Go.Proofs.Ytidigkkkdaeblaa.Base Go.Proofs.Ytidigkkkdaeblaa.Cfg
set_option linter.unusedVariables false
set_option maxRecDepth 100000 in
set_option maxHeartbeats 1000000 in
theorem ext_2 (D : Nat) (w : World) (sd fd ld sb fb lb : ByteArray) (nd nb : Int) (pUd pPd pSd pAd : Option Addr) (yU yP yS yA : Addr) (HR : w.rowIs D 53 29 (F sd fd ld nd pUd pPd pSd pAd)) (hn : ¬ 0 < nb) :
    Calls Try.prog 11 #[.pointer (some ⟨D, 0, none⟩), .agg (cfg sb fb lb nb none none (some yS) none)] w fun e w' => e = .returned (.tuple #[]) ∧ w'.rowIs D 53 29 (F sd fd ld nd pUd pPd (some yS) pAd) ∧ But D w w' := by
  have hD := HR.lt
  have c17 : w.cell? ⟨D, 17, none⟩ = some (F sd fd ld nd pUd pPd pSd pAd 17) := HR.cell (by omega)
  have f17 := HR.frozen 17
  have HRW := Lib.hid (show ((w.setCell ⟨D, 17, none⟩ (.pointer (some yS))).alloc (.cells (cfg sb fb lb nb none none (some yS) none) 53)).rowIs D 53 29 (F sd fd ld nd pUd pPd (some yS) pAd) from
    (World.rowIs.congr (HR.set 17 (.pointer (some yS))) (fun i hi => by
      rcases (show i = 0 ∨ i = 1 ∨ i = 2 ∨ i = 3 ∨ i = 4 ∨ i = 5 ∨ i = 6 ∨ i = 7 ∨ i = 8 ∨ i = 9 ∨ i = 10 ∨ i = 11 ∨ i = 12 ∨ i = 13 ∨ i = 14 ∨ i = 15 ∨ i = 16 ∨ i = 17 ∨ i = 18 ∨ i = 19 ∨ i = 20 ∨ i = 21 ∨ i = 22 ∨ i = 23 ∨ i = 24 ∨ i = 25 ∨ i = 26 ∨ i = 27 ∨ i = 28 by omega) with rfl | rfl | rfl | rfl | rfl | rfl | rfl | rfl | rfl | rfl | rfl | rfl | rfl | rfl | rfl | rfl | rfl | rfl | rfl | rfl | rfl | rfl | rfl | rfl | rfl | rfl | rfl | rfl | rfl <;> rfl)).alloc _)
  have HBW := Lib.hid (show But D w ((w.setCell ⟨D, 17, none⟩ (.pointer (some yS))).alloc (.cells (cfg sb fb lb nb none none (some yS) none) 53)) from
    ((But.refl D w).trans (But.set D 17 _ (.pointer (some yS)))).trans (But.of_below ((Below.refl _ _).alloc (Nat.le_refl _) _)))
  clear HR
  unfold cfg at HRW HBW ⊢
  go_enter Try.func11, Try.ntmps11
  go_wp2_with fail
  go_region_with ((go_at_call 12; refine (jsx_any _ _).mono ?_; rintro e w1 ⟨rfl, hb1⟩))
  clear c17 f17
  have d23 : w1.cell? ⟨w.heap.size, 23, none⟩ = some (.int .u8 0) := (bcell hb1 (by simp) 23).trans (new_cell _ (by simp) rfl)
  have d24 : w1.cell? ⟨w.heap.size, 24, none⟩ = some (.int .u8 0) := (bcell hb1 (by simp) 24).trans (new_cell _ (by simp) rfl)
  have d25 : w1.cell? ⟨w.heap.size, 25, none⟩ = some (.int .u8 0) := (bcell hb1 (by simp) 25).trans (new_cell _ (by simp) rfl)
  have d26 : w1.cell? ⟨w.heap.size, 26, none⟩ = some (.int .u8 0) := (bcell hb1 (by simp) 26).trans (new_cell _ (by simp) rfl)
  have d27 : w1.cell? ⟨w.heap.size, 27, none⟩ = some (.int .u8 0) := (bcell hb1 (by simp) 27).trans (new_cell _ (by simp) rfl)
  have d28 : w1.cell? ⟨w.heap.size, 28, none⟩ = some (.int .u8 0) := (bcell hb1 (by simp) 28).trans (new_cell _ (by simp) rfl)
  have hz := hb1.size
  simp at hz
  go_wp2_with fail
  go_region_with ((go_at_call 13; refine (settings_any _ _).mono ?_; rintro e w2 ⟨rfl, hb2⟩))
  go_wp2
  go_returns
  exact ⟨rfl, row_keep (row_keep HRW.out.drew hb1).drew hb2, (HBW.out.drew.trans (But.of_below hb1)).drew.trans (But.of_below hb2)⟩
set_option maxRecDepth 100000 in
set_option maxHeartbeats 1000000 in
theorem ext_6 (D : Nat) (w : World) (sd fd ld sb fb lb : ByteArray) (nd nb : Int) (pUd pPd pSd pAd : Option Addr) (yU yP yS yA : Addr) (HR : w.rowIs D 53 29 (F sd fd ld nd pUd pPd pSd pAd)) (hn : ¬ 0 < nb) :
    Calls Try.prog 11 #[.pointer (some ⟨D, 0, none⟩), .agg (cfg sb fb lb nb none none (some yS) (some yA))] w fun e w' => e = .returned (.tuple #[]) ∧ w'.rowIs D 53 29 (F sd fd ld nd pUd pPd (some yS) (some yA)) ∧ But D w w' := by
  have hD := HR.lt
  have c17 : w.cell? ⟨D, 17, none⟩ = some (F sd fd ld nd pUd pPd pSd pAd 17) := HR.cell (by omega)
  have f17 := HR.frozen 17
  have c18 : w.cell? ⟨D, 18, none⟩ = some (F sd fd ld nd pUd pPd pSd pAd 18) := HR.cell (by omega)
  have f18 := HR.frozen 18
  have HRW := Lib.hid (show (((w.setCell ⟨D, 17, none⟩ (.pointer (some yS))).setCell ⟨D, 18, none⟩ (.pointer (some yA))).alloc (.cells (cfg sb fb lb nb none none (some yS) (some yA)) 53)).rowIs D 53 29 (F sd fd ld nd pUd pPd (some yS) (some yA)) from
    (World.rowIs.congr ((HR.set 17 (.pointer (some yS))).set 18 (.pointer (some yA))) (fun i hi => by
      rcases (show i = 0 ∨ i = 1 ∨ i = 2 ∨ i = 3 ∨ i = 4 ∨ i = 5 ∨ i = 6 ∨ i = 7 ∨ i = 8 ∨ i = 9 ∨ i = 10 ∨ i = 11 ∨ i = 12 ∨ i = 13 ∨ i = 14 ∨ i = 15 ∨ i = 16 ∨ i = 17 ∨ i = 18 ∨ i = 19 ∨ i = 20 ∨ i = 21 ∨ i = 22 ∨ i = 23 ∨ i = 24 ∨ i = 25 ∨ i = 26 ∨ i = 27 ∨ i = 28 by omega) with rfl | rfl | rfl | rfl | rfl | rfl | rfl | rfl | rfl | rfl | rfl | rfl | rfl | rfl | rfl | rfl | rfl | rfl | rfl | rfl | rfl | rfl | rfl | rfl | rfl | rfl | rfl | rfl | rfl <;> rfl)).alloc _)
  have HBW := Lib.hid (show But D w (((w.setCell ⟨D, 17, none⟩ (.pointer (some yS))).setCell ⟨D, 18, none⟩ (.pointer (some yA))).alloc (.cells (cfg sb fb lb nb none none (some yS) (some yA)) 53)) from
    (((But.refl D w).trans (But.set D 17 _ (.pointer (some yS)))).trans (But.set D 18 _ (.pointer (some yA)))).trans (But.of_below ((Below.refl _ _).alloc (Nat.le_refl _) _)))
  clear HR
  unfold cfg at HRW HBW ⊢
  go_enter Try.func11, Try.ntmps11
  go_wp2_with fail
  go_region_with ((go_at_call 12; refine (jsx_any _ _).mono ?_; rintro e w1 ⟨rfl, hb1⟩))
  clear c17 f17 c18 f18
  have d23 : w1.cell? ⟨w.heap.size, 23, none⟩ = some (.int .u8 0) := (bcell hb1 (by simp) 23).trans (new_cell _ (by simp) rfl)
  have d24 : w1.cell? ⟨w.heap.size, 24, none⟩ = some (.int .u8 0) := (bcell hb1 (by simp) 24).trans (new_cell _ (by simp) rfl)
  have d25 : w1.cell? ⟨w.heap.size, 25, none⟩ = some (.int .u8 0) := (bcell hb1 (by simp) 25).trans (new_cell _ (by simp) rfl)
  have d26 : w1.cell? ⟨w.heap.size, 26, none⟩ = some (.int .u8 0) := (bcell hb1 (by simp) 26).trans (new_cell _ (by simp) rfl)
  have d27 : w1.cell? ⟨w.heap.size, 27, none⟩ = some (.int .u8 0) := (bcell hb1 (by simp) 27).trans (new_cell _ (by simp) rfl)
  have d28 : w1.cell? ⟨w.heap.size, 28, none⟩ = some (.int .u8 0) := (bcell hb1 (by simp) 28).trans (new_cell _ (by simp) rfl)
  have hz := hb1.size
  simp at hz
  go_wp2_with fail
  go_region_with ((go_at_call 13; refine (settings_any _ _).mono ?_; rintro e w2 ⟨rfl, hb2⟩))
  go_wp2
  go_returns
  exact ⟨rfl, row_keep (row_keep HRW.out.drew hb1).drew hb2, (HBW.out.drew.trans (But.of_below hb1)).drew.trans (But.of_below hb2)⟩
set_option maxRecDepth 100000 in
set_option maxHeartbeats 1000000 in
theorem ext_10 (D : Nat) (w : World) (sd fd ld sb fb lb : ByteArray) (nd nb : Int) (pUd pPd pSd pAd : Option Addr) (yU yP yS yA : Addr) (HR : w.rowIs D 53 29 (F sd fd ld nd pUd pPd pSd pAd)) (hn : ¬ 0 < nb) :
    Calls Try.prog 11 #[.pointer (some ⟨D, 0, none⟩), .agg (cfg sb fb lb nb (some yU) none (some yS) none)] w fun e w' => e = .returned (.tuple #[]) ∧ w'.rowIs D 53 29 (F sd fd ld nd (some yU) pPd (some yS) pAd) ∧ But D w w' := by
  have hD := HR.lt
  have c1 : w.cell? ⟨D, 1, none⟩ = some (F sd fd ld nd pUd pPd pSd pAd 1) := HR.cell (by omega)
  have f1 := HR.frozen 1
  have c17 : w.cell? ⟨D, 17, none⟩ = some (F sd fd ld nd pUd pPd pSd pAd 17) := HR.cell (by omega)
  have f17 := HR.frozen 17
  have HRW := Lib.hid (show (((w.setCell ⟨D, 17, none⟩ (.pointer (some yS))).setCell ⟨D, 1, none⟩ (.pointer (some yU))).alloc (.cells (cfg sb fb lb nb (some yU) none (some yS) none) 53)).rowIs D 53 29 (F sd fd ld nd (some yU) pPd (some yS) pAd) from
    (World.rowIs.congr ((HR.set 17 (.pointer (some yS))).set 1 (.pointer (some yU))) (fun i hi => by
      rcases (show i = 0 ∨ i = 1 ∨ i = 2 ∨ i = 3 ∨ i = 4 ∨ i = 5 ∨ i = 6 ∨ i = 7 ∨ i = 8 ∨ i = 9 ∨ i = 10 ∨ i = 11 ∨ i = 12 ∨ i = 13 ∨ i = 14 ∨ i = 15 ∨ i = 16 ∨ i = 17 ∨ i = 18 ∨ i = 19 ∨ i = 20 ∨ i = 21 ∨ i = 22 ∨ i = 23 ∨ i = 24 ∨ i = 25 ∨ i = 26 ∨ i = 27 ∨ i = 28 by omega) with rfl | rfl | rfl | rfl | rfl | rfl | rfl | rfl | rfl | rfl | rfl | rfl | rfl | rfl | rfl | rfl | rfl | rfl | rfl | rfl | rfl | rfl | rfl | rfl | rfl | rfl | rfl | rfl | rfl <;> rfl)).alloc _)
  have HBW := Lib.hid (show But D w (((w.setCell ⟨D, 17, none⟩ (.pointer (some yS))).setCell ⟨D, 1, none⟩ (.pointer (some yU))).alloc (.cells (cfg sb fb lb nb (some yU) none (some yS) none) 53)) from
    (((But.refl D w).trans (But.set D 17 _ (.pointer (some yS)))).trans (But.set D 1 _ (.pointer (some yU)))).trans (But.of_below ((Below.refl _ _).alloc (Nat.le_refl _) _)))
  clear HR
  unfold cfg at HRW HBW ⊢
  go_enter Try.func11, Try.ntmps11
  go_wp2_with fail
  go_region_with ((go_at_call 12; refine (jsx_any _ _).mono ?_; rintro e w1 ⟨rfl, hb1⟩))
  clear c1 f1 c17 f17
  have d23 : w1.cell? ⟨w.heap.size, 23, none⟩ = some (.int .u8 0) := (bcell hb1 (by simp) 23).trans (new_cell _ (by simp) rfl)
  have d24 : w1.cell? ⟨w.heap.size, 24, none⟩ = some (.int .u8 0) := (bcell hb1 (by simp) 24).trans (new_cell _ (by simp) rfl)
  have d25 : w1.cell? ⟨w.heap.size, 25, none⟩ = some (.int .u8 0) := (bcell hb1 (by simp) 25).trans (new_cell _ (by simp) rfl)
  have d26 : w1.cell? ⟨w.heap.size, 26, none⟩ = some (.int .u8 0) := (bcell hb1 (by simp) 26).trans (new_cell _ (by simp) rfl)
  have d27 : w1.cell? ⟨w.heap.size, 27, none⟩ = some (.int .u8 0) := (bcell hb1 (by simp) 27).trans (new_cell _ (by simp) rfl)
  have d28 : w1.cell? ⟨w.heap.size, 28, none⟩ = some (.int .u8 0) := (bcell hb1 (by simp) 28).trans (new_cell _ (by simp) rfl)
  have hz := hb1.size
  simp at hz
  go_wp2_with fail
  go_region_with ((go_at_call 13; refine (settings_any _ _).mono ?_; rintro e w2 ⟨rfl, hb2⟩))
  go_wp2
  go_returns
  exact ⟨rfl, row_keep (row_keep HRW.out.drew hb1).drew hb2, (HBW.out.drew.trans (But.of_below hb1)).drew.trans (But.of_below hb2)⟩
set_option maxRecDepth 100000 in
set_option maxHeartbeats 1000000 in
theorem ext_14 (D : Nat) (w : World) (sd fd ld sb fb lb : ByteArray) (nd nb : Int) (pUd pPd pSd pAd : Option Addr) (yU yP yS yA : Addr) (HR : w.rowIs D 53 29 (F sd fd ld nd pUd pPd pSd pAd)) (hn : ¬ 0 < nb) :
    Calls Try.prog 11 #[.pointer (some ⟨D, 0, none⟩), .agg (cfg sb fb lb nb (some yU) none (some yS) (some yA))] w fun e w' => e = .returned (.tuple #[]) ∧ w'.rowIs D 53 29 (F sd fd ld nd (some yU) pPd (some yS) (some yA)) ∧ But D w w' := by
  have hD := HR.lt
  have c1 : w.cell? ⟨D, 1, none⟩ = some (F sd fd ld nd pUd pPd pSd pAd 1) := HR.cell (by omega)
  have f1 := HR.frozen 1
  have c17 : w.cell? ⟨D, 17, none⟩ = some (F sd fd ld nd pUd pPd pSd pAd 17) := HR.cell (by omega)
  have f17 := HR.frozen 17
  have c18 : w.cell? ⟨D, 18, none⟩ = some (F sd fd ld nd pUd pPd pSd pAd 18) := HR.cell (by omega)
  have f18 := HR.frozen 18
  have HRW := Lib.hid (show ((((w.setCell ⟨D, 17, none⟩ (.pointer (some yS))).setCell ⟨D, 18, none⟩ (.pointer (some yA))).setCell ⟨D, 1, none⟩ (.pointer (some yU))).alloc (.cells (cfg sb fb lb nb (some yU) none (some yS) (some yA)) 53)).rowIs D 53 29 (F sd fd ld nd (some yU) pPd (some yS) (some yA)) from
    (World.rowIs.congr (((HR.set 17 (.pointer (some yS))).set 18 (.pointer (some yA))).set 1 (.pointer (some yU))) (fun i hi => by
      rcases (show i = 0 ∨ i = 1 ∨ i = 2 ∨ i = 3 ∨ i = 4 ∨ i = 5 ∨ i = 6 ∨ i = 7 ∨ i = 8 ∨ i = 9 ∨ i = 10 ∨ i = 11 ∨ i = 12 ∨ i = 13 ∨ i = 14 ∨ i = 15 ∨ i = 16 ∨ i = 17 ∨ i = 18 ∨ i = 19 ∨ i = 20 ∨ i = 21 ∨ i = 22 ∨ i = 23 ∨ i = 24 ∨ i = 25 ∨ i = 26 ∨ i = 27 ∨ i = 28 by omega) with rfl | rfl | rfl | rfl | rfl | rfl | rfl | rfl | rfl | rfl | rfl | rfl | rfl | rfl | rfl | rfl | rfl | rfl | rfl | rfl | rfl | rfl | rfl | rfl | rfl | rfl | rfl | rfl | rfl <;> rfl)).alloc _)
  have HBW := Lib.hid (show But D w ((((w.setCell ⟨D, 17, none⟩ (.pointer (some yS))).setCell ⟨D, 18, none⟩ (.pointer (some yA))).setCell ⟨D, 1, none⟩ (.pointer (some yU))).alloc (.cells (cfg sb fb lb nb (some yU) none (some yS) (some yA)) 53)) from
    ((((But.refl D w).trans (But.set D 17 _ (.pointer (some yS)))).trans (But.set D 18 _ (.pointer (some yA)))).trans (But.set D 1 _ (.pointer (some yU)))).trans (But.of_below ((Below.refl _ _).alloc (Nat.le_refl _) _)))
  clear HR
  unfold cfg at HRW HBW ⊢
  go_enter Try.func11, Try.ntmps11
  go_wp2_with fail
  go_region_with ((go_at_call 12; refine (jsx_any _ _).mono ?_; rintro e w1 ⟨rfl, hb1⟩))
  clear c1 f1 c17 f17 c18 f18
  have d23 : w1.cell? ⟨w.heap.size, 23, none⟩ = some (.int .u8 0) := (bcell hb1 (by simp) 23).trans (new_cell _ (by simp) rfl)
  have d24 : w1.cell? ⟨w.heap.size, 24, none⟩ = some (.int .u8 0) := (bcell hb1 (by simp) 24).trans (new_cell _ (by simp) rfl)
  have d25 : w1.cell? ⟨w.heap.size, 25, none⟩ = some (.int .u8 0) := (bcell hb1 (by simp) 25).trans (new_cell _ (by simp) rfl)
  have d26 : w1.cell? ⟨w.heap.size, 26, none⟩ = some (.int .u8 0) := (bcell hb1 (by simp) 26).trans (new_cell _ (by simp) rfl)
  have d27 : w1.cell? ⟨w.heap.size, 27, none⟩ = some (.int .u8 0) := (bcell hb1 (by simp) 27).trans (new_cell _ (by simp) rfl)
  have d28 : w1.cell? ⟨w.heap.size, 28, none⟩ = some (.int .u8 0) := (bcell hb1 (by simp) 28).trans (new_cell _ (by simp) rfl)
  have hz := hb1.size
  simp at hz
  go_wp2_with fail
  go_region_with ((go_at_call 13; refine (settings_any _ _).mono ?_; rintro e w2 ⟨rfl, hb2⟩))
  go_wp2
  go_returns
  exact ⟨rfl, row_keep (row_keep HRW.out.drew hb1).drew hb2, (HBW.out.drew.trans (But.of_below hb1)).drew.trans (But.of_below hb2)⟩
set_option maxRecDepth 100000 in
set_option maxHeartbeats 1000000 in
theorem ext_18 (D : Nat) (w : World) (sd fd ld sb fb lb : ByteArray) (nd nb : Int) (pUd pPd pSd pAd : Option Addr) (yU yP yS yA : Addr) (HR : w.rowIs D 53 29 (F sd fd ld nd pUd pPd pSd pAd)) (hn : ¬ 0 < nb) :
    Calls Try.prog 11 #[.pointer (some ⟨D, 0, none⟩), .agg (cfg sb fb lb nb none (some yP) (some yS) none)] w fun e w' => e = .returned (.tuple #[]) ∧ w'.rowIs D 53 29 (F sd fb ld nd pUd (some yP) (some yS) pAd) ∧ But D w w' := by
  have hD := HR.lt
  have c2 : w.cell? ⟨D, 2, none⟩ = some (F sd fd ld nd pUd pPd pSd pAd 2) := HR.cell (by omega)
  have f2 := HR.frozen 2
  have c3 : w.cell? ⟨D, 3, none⟩ = some (F sd fd ld nd pUd pPd pSd pAd 3) := HR.cell (by omega)
  have f3 := HR.frozen 3
  have c17 : w.cell? ⟨D, 17, none⟩ = some (F sd fd ld nd pUd pPd pSd pAd 17) := HR.cell (by omega)
  have f17 := HR.frozen 17
  have HRW := Lib.hid (show ((((w.setCell ⟨D, 17, none⟩ (.pointer (some yS))).setCell ⟨D, 3, none⟩ (.pointer (some yP))).setCell ⟨D, 2, none⟩ (.string fb)).alloc (.cells (cfg sb fb lb nb none (some yP) (some yS) none) 53)).rowIs D 53 29 (F sd fb ld nd pUd (some yP) (some yS) pAd) from
    (World.rowIs.congr (((HR.set 17 (.pointer (some yS))).set 3 (.pointer (some yP))).set 2 (.string fb)) (fun i hi => by
      rcases (show i = 0 ∨ i = 1 ∨ i = 2 ∨ i = 3 ∨ i = 4 ∨ i = 5 ∨ i = 6 ∨ i = 7 ∨ i = 8 ∨ i = 9 ∨ i = 10 ∨ i = 11 ∨ i = 12 ∨ i = 13 ∨ i = 14 ∨ i = 15 ∨ i = 16 ∨ i = 17 ∨ i = 18 ∨ i = 19 ∨ i = 20 ∨ i = 21 ∨ i = 22 ∨ i = 23 ∨ i = 24 ∨ i = 25 ∨ i = 26 ∨ i = 27 ∨ i = 28 by omega) with rfl | rfl | rfl | rfl | rfl | rfl | rfl | rfl | rfl | rfl | rfl | rfl | rfl | rfl | rfl | rfl | rfl | rfl | rfl | rfl | rfl | rfl | rfl | rfl | rfl | rfl | rfl | rfl | rfl <;> rfl)).alloc _)
  have HBW := Lib.hid (show But D w ((((w.setCell ⟨D, 17, none⟩ (.pointer (some yS))).setCell ⟨D, 3, none⟩ (.pointer (some yP))).setCell ⟨D, 2, none⟩ (.string fb)).alloc (.cells (cfg sb fb lb nb none (some yP) (some yS) none) 53)) from
    ((((But.refl D w).trans (But.set D 17 _ (.pointer (some yS)))).trans (But.set D 3 _ (.pointer (some yP)))).trans (But.set D 2 _ (.string fb))).trans (But.of_below ((Below.refl _ _).alloc (Nat.le_refl _) _)))
  clear HR
  unfold cfg at HRW HBW ⊢
  go_enter Try.func11, Try.ntmps11
  go_wp2_with fail
  go_region_with ((go_at_call 12; refine (jsx_any _ _).mono ?_; rintro e w1 ⟨rfl, hb1⟩))
  clear c2 f2 c3 f3 c17 f17
  have d23 : w1.cell? ⟨w.heap.size, 23, none⟩ = some (.int .u8 0) := (bcell hb1 (by simp) 23).trans (new_cell _ (by simp) rfl)
  have d24 : w1.cell? ⟨w.heap.size, 24, none⟩ = some (.int .u8 0) := (bcell hb1 (by simp) 24).trans (new_cell _ (by simp) rfl)
  have d25 : w1.cell? ⟨w.heap.size, 25, none⟩ = some (.int .u8 0) := (bcell hb1 (by simp) 25).trans (new_cell _ (by simp) rfl)
  have d26 : w1.cell? ⟨w.heap.size, 26, none⟩ = some (.int .u8 0) := (bcell hb1 (by simp) 26).trans (new_cell _ (by simp) rfl)
  have d27 : w1.cell? ⟨w.heap.size, 27, none⟩ = some (.int .u8 0) := (bcell hb1 (by simp) 27).trans (new_cell _ (by simp) rfl)
  have d28 : w1.cell? ⟨w.heap.size, 28, none⟩ = some (.int .u8 0) := (bcell hb1 (by simp) 28).trans (new_cell _ (by simp) rfl)
  have hz := hb1.size
  simp at hz
  go_wp2_with fail
  go_region_with ((go_at_call 13; refine (settings_any _ _).mono ?_; rintro e w2 ⟨rfl, hb2⟩))
  go_wp2
  go_returns
  exact ⟨rfl, row_keep (row_keep HRW.out.drew hb1).drew hb2, (HBW.out.drew.trans (But.of_below hb1)).drew.trans (But.of_below hb2)⟩
set_option maxRecDepth 100000 in
set_option maxHeartbeats 1000000 in
theorem ext_22 (D : Nat) (w : World) (sd fd ld sb fb lb : ByteArray) (nd nb : Int) (pUd pPd pSd pAd : Option Addr) (yU yP yS yA : Addr) (HR : w.rowIs D 53 29 (F sd fd ld nd pUd pPd pSd pAd)) (hn : ¬ 0 < nb) :
    Calls Try.prog 11 #[.pointer (some ⟨D, 0, none⟩), .agg (cfg sb fb lb nb none (some yP) (some yS) (some yA))] w fun e w' => e = .returned (.tuple #[]) ∧ w'.rowIs D 53 29 (F sd fb ld nd pUd (some yP) (some yS) (some yA)) ∧ But D w w' := by
  have hD := HR.lt
  have c2 : w.cell? ⟨D, 2, none⟩ = some (F sd fd ld nd pUd pPd pSd pAd 2) := HR.cell (by omega)
  have f2 := HR.frozen 2
  have c3 : w.cell? ⟨D, 3, none⟩ = some (F sd fd ld nd pUd pPd pSd pAd 3) := HR.cell (by omega)
  have f3 := HR.frozen 3
  have c17 : w.cell? ⟨D, 17, none⟩ = some (F sd fd ld nd pUd pPd pSd pAd 17) := HR.cell (by omega)
  have f17 := HR.frozen 17
  have c18 : w.cell? ⟨D, 18, none⟩ = some (F sd fd ld nd pUd pPd pSd pAd 18) := HR.cell (by omega)
  have f18 := HR.frozen 18
  have HRW := Lib.hid (show (((((w.setCell ⟨D, 17, none⟩ (.pointer (some yS))).setCell ⟨D, 18, none⟩ (.pointer (some yA))).setCell ⟨D, 3, none⟩ (.pointer (some yP))).setCell ⟨D, 2, none⟩ (.string fb)).alloc (.cells (cfg sb fb lb nb none (some yP) (some yS) (some yA)) 53)).rowIs D 53 29 (F sd fb ld nd pUd (some yP) (some yS) (some yA)) from
    (World.rowIs.congr ((((HR.set 17 (.pointer (some yS))).set 18 (.pointer (some yA))).set 3 (.pointer (some yP))).set 2 (.string fb)) (fun i hi => by
      rcases (show i = 0 ∨ i = 1 ∨ i = 2 ∨ i = 3 ∨ i = 4 ∨ i = 5 ∨ i = 6 ∨ i = 7 ∨ i = 8 ∨ i = 9 ∨ i = 10 ∨ i = 11 ∨ i = 12 ∨ i = 13 ∨ i = 14 ∨ i = 15 ∨ i = 16 ∨ i = 17 ∨ i = 18 ∨ i = 19 ∨ i = 20 ∨ i = 21 ∨ i = 22 ∨ i = 23 ∨ i = 24 ∨ i = 25 ∨ i = 26 ∨ i = 27 ∨ i = 28 by omega) with rfl | rfl | rfl | rfl | rfl | rfl | rfl | rfl | rfl | rfl | rfl | rfl | rfl | rfl | rfl | rfl | rfl | rfl | rfl | rfl | rfl | rfl | rfl | rfl | rfl | rfl | rfl | rfl | rfl <;> rfl)).alloc _)
  have HBW := Lib.hid (show But D w (((((w.setCell ⟨D, 17, none⟩ (.pointer (some yS))).setCell ⟨D, 18, none⟩ (.pointer (some yA))).setCell ⟨D, 3, none⟩ (.pointer (some yP))).setCell ⟨D, 2, none⟩ (.string fb)).alloc (.cells (cfg sb fb lb nb none (some yP) (some yS) (some yA)) 53)) from
    (((((But.refl D w).trans (But.set D 17 _ (.pointer (some yS)))).trans (But.set D 18 _ (.pointer (some yA)))).trans (But.set D 3 _ (.pointer (some yP)))).trans (But.set D 2 _ (.string fb))).trans (But.of_below ((Below.refl _ _).alloc (Nat.le_refl _) _)))
  clear HR
  unfold cfg at HRW HBW ⊢
  go_enter Try.func11, Try.ntmps11
  go_wp2_with fail
  go_region_with ((go_at_call 12; refine (jsx_any _ _).mono ?_; rintro e w1 ⟨rfl, hb1⟩))
  clear c2 f2 c3 f3 c17 f17 c18 f18
  have d23 : w1.cell? ⟨w.heap.size, 23, none⟩ = some (.int .u8 0) := (bcell hb1 (by simp) 23).trans (new_cell _ (by simp) rfl)
  have d24 : w1.cell? ⟨w.heap.size, 24, none⟩ = some (.int .u8 0) := (bcell hb1 (by simp) 24).trans (new_cell _ (by simp) rfl)
  have d25 : w1.cell? ⟨w.heap.size, 25, none⟩ = some (.int .u8 0) := (bcell hb1 (by simp) 25).trans (new_cell _ (by simp) rfl)
  have d26 : w1.cell? ⟨w.heap.size, 26, none⟩ = some (.int .u8 0) := (bcell hb1 (by simp) 26).trans (new_cell _ (by simp) rfl)
  have d27 : w1.cell? ⟨w.heap.size, 27, none⟩ = some (.int .u8 0) := (bcell hb1 (by simp) 27).trans (new_cell _ (by simp) rfl)
  have d28 : w1.cell? ⟨w.heap.size, 28, none⟩ = some (.int .u8 0) := (bcell hb1 (by simp) 28).trans (new_cell _ (by simp) rfl)
  have hz := hb1.size
  simp at hz
  go_wp2_with fail
  go_region_with ((go_at_call 13; refine (settings_any _ _).mono ?_; rintro e w2 ⟨rfl, hb2⟩))
  go_wp2
  go_returns
  exact ⟨rfl, row_keep (row_keep HRW.out.drew hb1).drew hb2, (HBW.out.drew.trans (But.of_below hb1)).drew.trans (But.of_below hb2)⟩
set_option maxRecDepth 100000 in
set_option maxHeartbeats 1000000 in
theorem ext_26 (D : Nat) (w : World) (sd fd ld sb fb lb : ByteArray) (nd nb : Int) (pUd pPd pSd pAd : Option Addr) (yU yP yS yA : Addr) (HR : w.rowIs D 53 29 (F sd fd ld nd pUd pPd pSd pAd)) (hn : ¬ 0 < nb) :
    Calls Try.prog 11 #[.pointer (some ⟨D, 0, none⟩), .agg (cfg sb fb lb nb (some yU) (some yP) (some yS) none)] w fun e w' => e = .returned (.tuple #[]) ∧ w'.rowIs D 53 29 (F sd fb ld nd (some yU) (some yP) (some yS) pAd) ∧ But D w w' := by
  have hD := HR.lt
  have c1 : w.cell? ⟨D, 1, none⟩ = some (F sd fd ld nd pUd pPd pSd pAd 1) := HR.cell (by omega)
  have f1 := HR.frozen 1
  have c2 : w.cell? ⟨D, 2, none⟩ = some (F sd fd ld nd pUd pPd pSd pAd 2) := HR.cell (by omega)
  have f2 := HR.frozen 2
  have c3 : w.cell? ⟨D, 3, none⟩ = some (F sd fd ld nd pUd pPd pSd pAd 3) := HR.cell (by omega)
  have f3 := HR.frozen 3
  have c17 : w.cell? ⟨D, 17, none⟩ = some (F sd fd ld nd pUd pPd pSd pAd 17) := HR.cell (by omega)
  have f17 := HR.frozen 17
  have HRW := Lib.hid (show (((((w.setCell ⟨D, 17, none⟩ (.pointer (some yS))).setCell ⟨D, 1, none⟩ (.pointer (some yU))).setCell ⟨D, 3, none⟩ (.pointer (some yP))).setCell ⟨D, 2, none⟩ (.string fb)).alloc (.cells (cfg sb fb lb nb (some yU) (some yP) (some yS) none) 53)).rowIs D 53 29 (F sd fb ld nd (some yU) (some yP) (some yS) pAd) from
    (World.rowIs.congr ((((HR.set 17 (.pointer (some yS))).set 1 (.pointer (some yU))).set 3 (.pointer (some yP))).set 2 (.string fb)) (fun i hi => by
      rcases (show i = 0 ∨ i = 1 ∨ i = 2 ∨ i = 3 ∨ i = 4 ∨ i = 5 ∨ i = 6 ∨ i = 7 ∨ i = 8 ∨ i = 9 ∨ i = 10 ∨ i = 11 ∨ i = 12 ∨ i = 13 ∨ i = 14 ∨ i = 15 ∨ i = 16 ∨ i = 17 ∨ i = 18 ∨ i = 19 ∨ i = 20 ∨ i = 21 ∨ i = 22 ∨ i = 23 ∨ i = 24 ∨ i = 25 ∨ i = 26 ∨ i = 27 ∨ i = 28 by omega) with rfl | rfl | rfl | rfl | rfl | rfl | rfl | rfl | rfl | rfl | rfl | rfl | rfl | rfl | rfl | rfl | rfl | rfl | rfl | rfl | rfl | rfl | rfl | rfl | rfl | rfl | rfl | rfl | rfl <;> rfl)).alloc _)
  have HBW := Lib.hid (show But D w (((((w.setCell ⟨D, 17, none⟩ (.pointer (some yS))).setCell ⟨D, 1, none⟩ (.pointer (some yU))).setCell ⟨D, 3, none⟩ (.pointer (some yP))).setCell ⟨D, 2, none⟩ (.string fb)).alloc (.cells (cfg sb fb lb nb (some yU) (some yP) (some yS) none) 53)) from
    (((((But.refl D w).trans (But.set D 17 _ (.pointer (some yS)))).trans (But.set D 1 _ (.pointer (some yU)))).trans (But.set D 3 _ (.pointer (some yP)))).trans (But.set D 2 _ (.string fb))).trans (But.of_below ((Below.refl _ _).alloc (Nat.le_refl _) _)))
  clear HR
  unfold cfg at HRW HBW ⊢
  go_enter Try.func11, Try.ntmps11
  go_wp2_with fail
  go_region_with ((go_at_call 12; refine (jsx_any _ _).mono ?_; rintro e w1 ⟨rfl, hb1⟩))
  clear c1 f1 c2 f2 c3 f3 c17 f17
  have d23 : w1.cell? ⟨w.heap.size, 23, none⟩ = some (.int .u8 0) := (bcell hb1 (by simp) 23).trans (new_cell _ (by simp) rfl)
  have d24 : w1.cell? ⟨w.heap.size, 24, none⟩ = some (.int .u8 0) := (bcell hb1 (by simp) 24).trans (new_cell _ (by simp) rfl)
  have d25 : w1.cell? ⟨w.heap.size, 25, none⟩ = some (.int .u8 0) := (bcell hb1 (by simp) 25).trans (new_cell _ (by simp) rfl)
  have d26 : w1.cell? ⟨w.heap.size, 26, none⟩ = some (.int .u8 0) := (bcell hb1 (by simp) 26).trans (new_cell _ (by simp) rfl)
  have d27 : w1.cell? ⟨w.heap.size, 27, none⟩ = some (.int .u8 0) := (bcell hb1 (by simp) 27).trans (new_cell _ (by simp) rfl)
  have d28 : w1.cell? ⟨w.heap.size, 28, none⟩ = some (.int .u8 0) := (bcell hb1 (by simp) 28).trans (new_cell _ (by simp) rfl)
  have hz := hb1.size
  simp at hz
  go_wp2_with fail
  go_region_with ((go_at_call 13; refine (settings_any _ _).mono ?_; rintro e w2 ⟨rfl, hb2⟩))
  go_wp2
  go_returns
  exact ⟨rfl, row_keep (row_keep HRW.out.drew hb1).drew hb2, (HBW.out.drew.trans (But.of_below hb1)).drew.trans (But.of_below hb2)⟩
set_option maxRecDepth 100000 in
set_option maxHeartbeats 1000000 in
theorem ext_30 (D : Nat) (w : World) (sd fd ld sb fb lb : ByteArray) (nd nb : Int) (pUd pPd pSd pAd : Option Addr) (yU yP yS yA : Addr) (HR : w.rowIs D 53 29 (F sd fd ld nd pUd pPd pSd pAd)) (hn : ¬ 0 < nb) :
    Calls Try.prog 11 #[.pointer (some ⟨D, 0, none⟩), .agg (cfg sb fb lb nb (some yU) (some yP) (some yS) (some yA))] w fun e w' => e = .returned (.tuple #[]) ∧ w'.rowIs D 53 29 (F sd fb ld nd (some yU) (some yP) (some yS) (some yA)) ∧ But D w w' := by
  have hD := HR.lt
  have c1 : w.cell? ⟨D, 1, none⟩ = some (F sd fd ld nd pUd pPd pSd pAd 1) := HR.cell (by omega)
  have f1 := HR.frozen 1
  have c2 : w.cell? ⟨D, 2, none⟩ = some (F sd fd ld nd pUd pPd pSd pAd 2) := HR.cell (by omega)
  have f2 := HR.frozen 2
  have c3 : w.cell? ⟨D, 3, none⟩ = some (F sd fd ld nd pUd pPd pSd pAd 3) := HR.cell (by omega)
  have f3 := HR.frozen 3
  have c17 : w.cell? ⟨D, 17, none⟩ = some (F sd fd ld nd pUd pPd pSd pAd 17) := HR.cell (by omega)
  have f17 := HR.frozen 17
  have c18 : w.cell? ⟨D, 18, none⟩ = some (F sd fd ld nd pUd pPd pSd pAd 18) := HR.cell (by omega)
  have f18 := HR.frozen 18
  have HRW := Lib.hid (show ((((((w.setCell ⟨D, 17, none⟩ (.pointer (some yS))).setCell ⟨D, 18, none⟩ (.pointer (some yA))).setCell ⟨D, 1, none⟩ (.pointer (some yU))).setCell ⟨D, 3, none⟩ (.pointer (some yP))).setCell ⟨D, 2, none⟩ (.string fb)).alloc (.cells (cfg sb fb lb nb (some yU) (some yP) (some yS) (some yA)) 53)).rowIs D 53 29 (F sd fb ld nd (some yU) (some yP) (some yS) (some yA)) from
    (World.rowIs.congr (((((HR.set 17 (.pointer (some yS))).set 18 (.pointer (some yA))).set 1 (.pointer (some yU))).set 3 (.pointer (some yP))).set 2 (.string fb)) (fun i hi => by
      rcases (show i = 0 ∨ i = 1 ∨ i = 2 ∨ i = 3 ∨ i = 4 ∨ i = 5 ∨ i = 6 ∨ i = 7 ∨ i = 8 ∨ i = 9 ∨ i = 10 ∨ i = 11 ∨ i = 12 ∨ i = 13 ∨ i = 14 ∨ i = 15 ∨ i = 16 ∨ i = 17 ∨ i = 18 ∨ i = 19 ∨ i = 20 ∨ i = 21 ∨ i = 22 ∨ i = 23 ∨ i = 24 ∨ i = 25 ∨ i = 26 ∨ i = 27 ∨ i = 28 by omega) with rfl | rfl | rfl | rfl | rfl | rfl | rfl | rfl | rfl | rfl | rfl | rfl | rfl | rfl | rfl | rfl | rfl | rfl | rfl | rfl | rfl | rfl | rfl | rfl | rfl | rfl | rfl | rfl | rfl <;> rfl)).alloc _)
  have HBW := Lib.hid (show But D w ((((((w.setCell ⟨D, 17, none⟩ (.pointer (some yS))).setCell ⟨D, 18, none⟩ (.pointer (some yA))).setCell ⟨D, 1, none⟩ (.pointer (some yU))).setCell ⟨D, 3, none⟩ (.pointer (some yP))).setCell ⟨D, 2, none⟩ (.string fb)).alloc (.cells (cfg sb fb lb nb (some yU) (some yP) (some yS) (some yA)) 53)) from
    ((((((But.refl D w).trans (But.set D 17 _ (.pointer (some yS)))).trans (But.set D 18 _ (.pointer (some yA)))).trans (But.set D 1 _ (.pointer (some yU)))).trans (But.set D 3 _ (.pointer (some yP)))).trans (But.set D 2 _ (.string fb))).trans (But.of_below ((Below.refl _ _).alloc (Nat.le_refl _) _)))
  clear HR
  unfold cfg at HRW HBW ⊢
  go_enter Try.func11, Try.ntmps11
  go_wp2_with fail
  go_region_with ((go_at_call 12; refine (jsx_any _ _).mono ?_; rintro e w1 ⟨rfl, hb1⟩))
  clear c1 f1 c2 f2 c3 f3 c17 f17 c18 f18
  have d23 : w1.cell? ⟨w.heap.size, 23, none⟩ = some (.int .u8 0) := (bcell hb1 (by simp) 23).trans (new_cell _ (by simp) rfl)
  have d24 : w1.cell? ⟨w.heap.size, 24, none⟩ = some (.int .u8 0) := (bcell hb1 (by simp) 24).trans (new_cell _ (by simp) rfl)
  have d25 : w1.cell? ⟨w.heap.size, 25, none⟩ = some (.int .u8 0) := (bcell hb1 (by simp) 25).trans (new_cell _ (by simp) rfl)
  have d26 : w1.cell? ⟨w.heap.size, 26, none⟩ = some (.int .u8 0) := (bcell hb1 (by simp) 26).trans (new_cell _ (by simp) rfl)
  have d27 : w1.cell? ⟨w.heap.size, 27, none⟩ = some (.int .u8 0) := (bcell hb1 (by simp) 27).trans (new_cell _ (by simp) rfl)
  have d28 : w1.cell? ⟨w.heap.size, 28, none⟩ = some (.int .u8 0) := (bcell hb1 (by simp) 28).trans (new_cell _ (by simp) rfl)
  have hz := hb1.size
  simp at hz
  go_wp2_with fail
  go_region_with ((go_at_call 13; refine (settings_any _ _).mono ?_; rintro e w2 ⟨rfl, hb2⟩))
  go_wp2
  go_returns
  exact ⟨rfl, row_keep (row_keep HRW.out.drew hb1).drew hb2, (HBW.out.drew.trans (But.of_below hb1)).drew.trans (But.of_below hb2)⟩
end Go.Proofs.Ytidigkkkdaeblaa.Ext
