/- applyExtendedConfig by its contract: each field that the base sets wins, all others stay. No condition. -/
import Derived.Test.YtidigkkkdaeblaaExtA
import Derived.Test.YtidigkkkdaeblaaExtB
import Derived.Test.YtidigkkkdaeblaaExtC
import Derived.Test.YtidigkkkdaeblaaExtD
import Derived.Laws.Rows
namespace Go.Proofs.Ytidigkkkdaeblaa.Ext
open Go.ChangeShapes Go.WideShapes Go.ChangeAt Go.RowKit Go.Deep Go.Proofs.Ytidigkkkdaeblaa.Base Go.Proofs.Ytidigkkkdaeblaa.Cfg
set_option linter.unusedVariables false
theorem ext_any (D : Nat) (w : World) (sd fd ld sb fb lb : ByteArray) (nd nb : Int) (pUd pPd pSd pAd pU pP pS pA : Option Addr) (HR : w.rowIs D 53 29 (F sd fd ld nd pUd pPd pSd pAd)) :
    Calls Try.prog 11 #[.pointer (some ⟨D, 0, none⟩), .agg (cfg sb fb lb nb pU pP pS pA)] w fun e w' => e = .returned (.tuple #[]) ∧
      w'.rowIs D 53 29 (F sd (if pP.isSome then fb else fd) (if 0 < nb then lb else ld) (if 0 < nb then nb else nd) (pU.or pUd) (pP.or pPd) (pS.or pSd) (pA.or pAd)) ∧ But D w w' := by
  by_cases hn : 0 < nb
  · rw [if_pos hn, if_pos hn]
    rcases pU with _ | xU <;> rcases pP with _ | xP <;> rcases pS with _ | xS <;> rcases pA with _ | xA
    · exact ext_1 D w sd fd ld sb fb lb nd nb pUd pPd pSd pAd ⟨0, 0, none⟩ ⟨0, 0, none⟩ ⟨0, 0, none⟩ ⟨0, 0, none⟩ HR hn
    · exact ext_5 D w sd fd ld sb fb lb nd nb pUd pPd pSd pAd ⟨0, 0, none⟩ ⟨0, 0, none⟩ ⟨0, 0, none⟩ xA HR hn
    · exact ext_3 D w sd fd ld sb fb lb nd nb pUd pPd pSd pAd ⟨0, 0, none⟩ ⟨0, 0, none⟩ xS ⟨0, 0, none⟩ HR hn
    · exact ext_7 D w sd fd ld sb fb lb nd nb pUd pPd pSd pAd ⟨0, 0, none⟩ ⟨0, 0, none⟩ xS xA HR hn
    · exact ext_17 D w sd fd ld sb fb lb nd nb pUd pPd pSd pAd ⟨0, 0, none⟩ xP ⟨0, 0, none⟩ ⟨0, 0, none⟩ HR hn
    · exact ext_21 D w sd fd ld sb fb lb nd nb pUd pPd pSd pAd ⟨0, 0, none⟩ xP ⟨0, 0, none⟩ xA HR hn
    · exact ext_19 D w sd fd ld sb fb lb nd nb pUd pPd pSd pAd ⟨0, 0, none⟩ xP xS ⟨0, 0, none⟩ HR hn
    · exact ext_23 D w sd fd ld sb fb lb nd nb pUd pPd pSd pAd ⟨0, 0, none⟩ xP xS xA HR hn
    · exact ext_9 D w sd fd ld sb fb lb nd nb pUd pPd pSd pAd xU ⟨0, 0, none⟩ ⟨0, 0, none⟩ ⟨0, 0, none⟩ HR hn
    · exact ext_13 D w sd fd ld sb fb lb nd nb pUd pPd pSd pAd xU ⟨0, 0, none⟩ ⟨0, 0, none⟩ xA HR hn
    · exact ext_11 D w sd fd ld sb fb lb nd nb pUd pPd pSd pAd xU ⟨0, 0, none⟩ xS ⟨0, 0, none⟩ HR hn
    · exact ext_15 D w sd fd ld sb fb lb nd nb pUd pPd pSd pAd xU ⟨0, 0, none⟩ xS xA HR hn
    · exact ext_25 D w sd fd ld sb fb lb nd nb pUd pPd pSd pAd xU xP ⟨0, 0, none⟩ ⟨0, 0, none⟩ HR hn
    · exact ext_29 D w sd fd ld sb fb lb nd nb pUd pPd pSd pAd xU xP ⟨0, 0, none⟩ xA HR hn
    · exact ext_27 D w sd fd ld sb fb lb nd nb pUd pPd pSd pAd xU xP xS ⟨0, 0, none⟩ HR hn
    · exact ext_31 D w sd fd ld sb fb lb nd nb pUd pPd pSd pAd xU xP xS xA HR hn
  · rw [if_neg hn, if_neg hn]
    rcases pU with _ | xU <;> rcases pP with _ | xP <;> rcases pS with _ | xS <;> rcases pA with _ | xA
    · exact ext_0 D w sd fd ld sb fb lb nd nb pUd pPd pSd pAd ⟨0, 0, none⟩ ⟨0, 0, none⟩ ⟨0, 0, none⟩ ⟨0, 0, none⟩ HR hn
    · exact ext_4 D w sd fd ld sb fb lb nd nb pUd pPd pSd pAd ⟨0, 0, none⟩ ⟨0, 0, none⟩ ⟨0, 0, none⟩ xA HR hn
    · exact ext_2 D w sd fd ld sb fb lb nd nb pUd pPd pSd pAd ⟨0, 0, none⟩ ⟨0, 0, none⟩ xS ⟨0, 0, none⟩ HR hn
    · exact ext_6 D w sd fd ld sb fb lb nd nb pUd pPd pSd pAd ⟨0, 0, none⟩ ⟨0, 0, none⟩ xS xA HR hn
    · exact ext_16 D w sd fd ld sb fb lb nd nb pUd pPd pSd pAd ⟨0, 0, none⟩ xP ⟨0, 0, none⟩ ⟨0, 0, none⟩ HR hn
    · exact ext_20 D w sd fd ld sb fb lb nd nb pUd pPd pSd pAd ⟨0, 0, none⟩ xP ⟨0, 0, none⟩ xA HR hn
    · exact ext_18 D w sd fd ld sb fb lb nd nb pUd pPd pSd pAd ⟨0, 0, none⟩ xP xS ⟨0, 0, none⟩ HR hn
    · exact ext_22 D w sd fd ld sb fb lb nd nb pUd pPd pSd pAd ⟨0, 0, none⟩ xP xS xA HR hn
    · exact ext_8 D w sd fd ld sb fb lb nd nb pUd pPd pSd pAd xU ⟨0, 0, none⟩ ⟨0, 0, none⟩ ⟨0, 0, none⟩ HR hn
    · exact ext_12 D w sd fd ld sb fb lb nd nb pUd pPd pSd pAd xU ⟨0, 0, none⟩ ⟨0, 0, none⟩ xA HR hn
    · exact ext_10 D w sd fd ld sb fb lb nd nb pUd pPd pSd pAd xU ⟨0, 0, none⟩ xS ⟨0, 0, none⟩ HR hn
    · exact ext_14 D w sd fd ld sb fb lb nd nb pUd pPd pSd pAd xU ⟨0, 0, none⟩ xS xA HR hn
    · exact ext_24 D w sd fd ld sb fb lb nd nb pUd pPd pSd pAd xU xP ⟨0, 0, none⟩ ⟨0, 0, none⟩ HR hn
    · exact ext_28 D w sd fd ld sb fb lb nd nb pUd pPd pSd pAd xU xP ⟨0, 0, none⟩ xA HR hn
    · exact ext_26 D w sd fd ld sb fb lb nd nb pUd pPd pSd pAd xU xP xS ⟨0, 0, none⟩ HR hn
    · exact ext_30 D w sd fd ld sb fb lb nd nb pUd pPd pSd pAd xU xP xS xA HR hn
/-- What the extended config holds. -/
def mrg (sd fd ld fb lb : ByteArray) (nd nb : Int) (pUd pPd pSd pAd pU pP pS pA : Option Addr) : Nat → Value :=
  F sd (if pP.isSome then fb else fd) (if 0 < nb then lb else ld) (if 0 < nb then nb else nd) (pU.or pUd) (pP.or pPd) (pS.or pSd) (pA.or pAd)
def After (D : Nat) (G : Nat → Value) (w w' : World) : Prop := w'.rowIs D 53 29 G ∧ But D w w'
theorem After.join {D : Nat} {G : Nat → Value} {w w1 w' : World} (h0 : Below w.heap.size w w1) (h : After D G w1 w') : After D G w w' := ⟨h.1, (But.of_below h0).trans h.2⟩
theorem apply_any (D : Nat) (w : World) (sd fd ld sb fb lb : ByteArray) (nd nb : Int) (pUd pPd pSd pAd pU pP pS pA : Option Addr) (HR : w.rowIs D 53 29 (F sd fd ld nd pUd pPd pSd pAd)) :
    Calls Try.prog 6 #[.pointer (some ⟨D, 0, none⟩), .agg (cfg sb fb lb nb pU pP pS pA)] w fun e w' => e = .returned (.tuple #[]) ∧ After D (mrg sd fd ld fb lb nd nb pUd pPd pSd pAd pU pP pS pA) w w' := by
  have H : Hid (∀ o, Calls Try.prog 11 #[.pointer (some ⟨D, 0, none⟩), .agg (cfg sb fb lb nb pU pP pS pA)] (w.alloc o) fun e w' => e = .returned (.tuple #[]) ∧ After D (mrg sd fd ld fb lb nd nb pUd pPd pSd pAd pU pP pS pA) (w.alloc o) w') :=
    Lib.hid (fun o => (ext_any D (w.alloc o) sd fd ld sb fb lb nd nb pUd pPd pSd pAd pU pP pS pA (HR.alloc o)).mono fun e w' h => ⟨h.1, h.2.1, h.2.2⟩)
  unfold cfg at H ⊢
  clear HR
  go_enter Try.func6, Try.ntmps6
  go_wp2_with (refine wpList_load_row rfl 53 _ rfl w.heap.size rfl 53 _ (0, 0) _ (blk_alloc_new _ _) Try.underlying53 rfl (by kernel_rfl) ?_)
  refine (H.out _).mono ?_
  rintro e w1 ⟨rfl, hb⟩
  go_wp2
  go_returns
  exact ⟨rfl, After.join ((Below.refl _ _).alloc (Nat.le_refl _) _) hb⟩
end Go.Proofs.Ytidigkkkdaeblaa.Ext
