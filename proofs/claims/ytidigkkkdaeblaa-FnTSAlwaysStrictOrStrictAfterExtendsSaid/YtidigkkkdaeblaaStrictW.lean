/- The walk of the law FnTSAlwaysStrictOrStrictAfterExtends: for all masks it returns true. No condition. -/
import Derived.Test.YtidigkkkdaeblaaExtAll
import Derived.LaidEqlPtr
namespace Go.Proofs.Ytidigkkkdaeblaa.fnTSAlwaysStrictOrStrictAfterExtends
open Go.ChangeShapes Go.WideShapes Go.ChangeAt Go.RowKit Go.Deep Go.Proofs.Ytidigkkkdaeblaa.Base Go.Proofs.Ytidigkkkdaeblaa.Cfg Go.Proofs.Ytidigkkkdaeblaa.Ext
set_option linter.unusedVariables false
theorem row_of {w : World} {B : Nat} {s f l : ByteArray} {n : Int} {pU pP pS pA : Option Addr} (h : w.heap[B]? = some (.cells (cfg s f l n pU pP pS pA) 53 (0, 0))) : w.rowIs B 53 29 (F s f l n pU pP pS pA) :=
  ⟨_, h, rfl, fun i hi => by unfold F; have : i < (cfg s f l n pU pP pS pA).size := hi; simp [Array.getD, this]⟩
theorem strict_any (D : Nat) (w : World) (s f l : ByteArray) (n : Int) (pU pP pS pA : Option Addr) (hr : w.rowIs D 53 29 (F s f l n pU pP pS pA)) :
    Calls Try.prog 7 #[.pointer (some ⟨D, 0, none⟩)] w fun e w' => e = .returned (.pointer (pA.or pS)) ∧ w = w' := by
  have c1 : w.cell? ⟨D, 18, none⟩ = some (.pointer pA) := hr.cell (i := 18) (by omega)
  have c2 : w.cell? ⟨D, 17, none⟩ = some (.pointer pS) := hr.cell (i := 17) (by omega)
  clear hr
  rcases pA with _ | ⟨b, o, x⟩
  · go_enter Try.func7, Try.ntmps7
    go_wp2
    go_ret
    exact ⟨rfl, rfl⟩
  · go_enter Try.func7, Try.ntmps7
    go_wp2
    go_ret
    exact ⟨rfl, rfl⟩
/-- What is known behind the extension: the strictness is P; nothing but block D has turned. -/
def Done (D : Nat) (P : Option Addr) (w w' : World) : Prop := (Calls Try.prog 7 #[.pointer (some ⟨D, 0, none⟩)] w' fun e w'' => e = .returned (.pointer P) ∧ w' = w'') ∧ But D w w'
theorem apply_strict (D : Nat) (w : World) (sd fd ld sb fb lb : ByteArray) (nd nb : Int) (pUd pPd pSd pAd pU pP pS pA : Option Addr) (HR : w.rowIs D 53 29 (F sd fd ld nd pUd pPd pSd pAd)) :
    Calls Try.prog 6 #[.pointer (some ⟨D, 0, none⟩), .agg (cfg sb fb lb nb pU pP pS pA)] w fun e w' => e = .returned (.tuple #[]) ∧ Done D ((pA.or pAd).or (pS.or pSd)) w w' :=
  (apply_any D w sd fd ld sb fb lb nd nb pUd pPd pSd pAd pU pP pS pA HR).mono fun e w' ⟨he, ha⟩ => ⟨he, strict_any D w' _ _ _ _ _ _ _ _ ha.1, ha.2⟩
theorem eql_same (a : Addr) (w : World) : (binOp .eql 24 (.pointer (some a)) (.pointer (some a))).run Try.prog w = .ok (.bool true) w := by
  have h : (Try.prog.info? 62).isSome = true := by kernel_rfl
  obtain ⟨j, hj⟩ := Option.isSome_iff_exists.1 h
  exact run_eql_ptr_same w a Try.underlying24 hj
set_option maxRecDepth 100000 in
set_option maxHeartbeats 2000000 in
theorem walk (a0 : Int) (a1 : Int) (w : World) (w0 : (Lit.int .u8 a0).wf = true) (w1 : (Lit.int .u8 a1).wf = true) :
    Calls Try.prog 3 #[.int .u8 a0, .int .u8 a1] w fun e w' => e = .returned (.bool true) ∧ Below w.heap.size w w' := by
  have M := Lib.hid mk_any
  clear w0 w1
  go_enter Try.func3, Try.ntmps3
  go_wp2_with fail
  refine (M.out _ _ _ _ _ _ _).mono ?_
  rintro e wd ⟨pUd, pPd, pSd, pAd, rfl, hd, hbd, q1, q2, q4, q8⟩
  have Q1 := Lib.hid q1; have Q2 := Lib.hid q2; have HD := Lib.hid hd
  clear q1 q2 q4 q8 hd
  go_wp2_with fail
  refine (M.out _ _ _ _ _ _ _).mono ?_
  rintro e wb ⟨pUb, pPb, pSb, pAb, rfl, hb, hbb, r1, r2, r4, r8⟩
  have hlt := (row_of HD.out).lt
  have hd : wb.heap[w.heap.size]? = _ := (hbb.block w.heap.size hlt).trans HD.out
  have RD := row_of hd
  have RB := row_of hb
  have HB := Lib.hid hb
  have q1 := Q1.out; have q2 := Q2.out
  have c1 : wb.cell? ⟨w.heap.size, 18, none⟩ = some (.pointer pAd) := RD.cell (i := 18) (by omega)
  have c2 : wb.cell? ⟨w.heap.size, 17, none⟩ = some (.pointer pSd) := RD.cell (i := 17) (by omega)
  have c3 : wb.cell? ⟨wd.heap.size, 18, none⟩ = some (.pointer pAb) := RB.cell (i := 18) (by omega)
  have c4 : wb.cell? ⟨wd.heap.size, 17, none⟩ = some (.pointer pSb) := RB.cell (i := 17) (by omega)
  have BEL := Lib.hid (show Below w.heap.size w wb from below_join hbd (by omega) hbb)
  have AP := Lib.hid (apply_strict w.heap.size wb _ _ _ { data := #[47, 98, 47, 116, 115, 99, 111, 110, 102, 105, 103, 46, 106, 115, 111, 110] } { data := #[47, 98] } { data := #[] } _ 0 pUd pPd pSd pAd pUb pPb pSb pAb RD)
  clear r4 r8 hd hb hbb hbd RD RB Q1 Q2 HD M
  have key : (∃ x, pAb = some x) ∨ (pAb = none ∧ ∃ x, pAd = some x) ∨ (pAb = none ∧ pAd = none ∧ ∃ x, pSb = some x) ∨ (pAb = none ∧ pAd = none ∧ pSb = none ∧ ∃ x, pSd = some x) ∨ (pAb = none ∧ pAd = none ∧ pSb = none ∧ pSd = none) := by
    rcases pAb with _ | _ <;> rcases pAd with _ | _ <;> rcases pSb with _ | _ <;> rcases pSd with _ | _ <;> simp
  rcases key with ⟨⟨xb, xo, xp⟩, rfl⟩ | ⟨rfl, ⟨xb, xo, xp⟩, rfl⟩ | ⟨rfl, rfl, ⟨xb, xo, xp⟩, rfl⟩ | ⟨rfl, rfl, rfl, ⟨xb, xo, xp⟩, rfl⟩ | ⟨rfl, rfl, rfl, rfl⟩
  all_goals
    simp only [Option.isSome_none, Option.isSome_some, Option.some_or, Option.none_or] at q1 q2 r1 r2 AP
    go_wp2_with (refine wpList_load_row rfl 53 _ rfl wd.heap.size rfl 53 _ (0, 0) _ HB.out Try.underlying53 rfl (by kernel_rfl) ?_)
    refine AP.out.mono ?_
    rintro e w1 ⟨rfl, ha⟩
    have T7 := Lib.hid ha.1
    have FB := Lib.hid (But.below BEL.out (Nat.le_refl _) ha.2 BEL.out.size); clear ha
    go_wp2_with fail
    refine T7.out.mono ?_
    rintro e w2 ⟨rfl, rfl⟩
    have es := eql_same
    go_wp2
    go_ret
    exact ⟨by simp, FB.out⟩
end Go.Proofs.Ytidigkkkdaeblaa.fnTSAlwaysStrictOrStrictAfterExtends
