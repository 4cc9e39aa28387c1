/- The walk of the law FnApplyExtendedConfigLastBaseWinsIdempotent: for all masks and lengths it returns true. No condition. -/
import Derived.Test.YtidigkkkdaeblaaExtAll
import Derived.LaidEqlPtr
import Derived.Deep.DeepCutAuto
namespace Go.Proofs.Ytidigkkkdaeblaa.fnApplyExtendedConfigLastBaseWinsIdempotent
open Go.ChangeShapes Go.WideShapes Go.ChangeAt Go.RowKit Go.Deep Go.Proofs.Ytidigkkkdaeblaa.Base Go.Proofs.Ytidigkkkdaeblaa.Cfg Go.Proofs.Ytidigkkkdaeblaa.Ext
set_option linter.unusedVariables false
theorem row_of {w : World} {B : Nat} {s f l : ByteArray} {n : Int} {pU pP pS pA : Option Addr} (h : w.heap[B]? = some (.cells (cfg s f l n pU pP pS pA) 53 (0, 0))) : w.rowIs B 53 29 (F s f l n pU pP pS pA) :=
  ⟨_, h, rfl, fun i hi => by unfold F; have : i < (cfg s f l n pU pP pS pA).size := hi; simp [Array.getD, this]⟩
theorem neq_same (t te : TypeId) (ht : Try.prog.underlying t = some (.pointer te)) (h : (Try.prog.info? te).isSome = true) (p : Option Addr) (w : World) : (binOp .neq t (.pointer p) (.pointer p)).run Try.prog w = .ok (.bool false) w := by
  obtain ⟨j, hj⟩ := Option.isSome_iff_exists.1 h
  have hd : ∀ d : Nat, (Op.equalIn (d + 1) t (.pointer p) (.pointer p)).run Try.prog w = .ok true w := fun d => by
    cases p <;> simp [Op.equalIn, run_underlying ht, sizeOf, typeInfo, hj, run_sameAddr_same]
  simp only [binOp]
  simp [Op.equal, Op.maxDepth, hd 9999]
theorem neq24 (p : Option Addr) (w : World) : (binOp .neq 24 (.pointer p) (.pointer p)).run Try.prog w = .ok (.bool false) w := neq_same 24 _ Try.underlying24 (by kernel_rfl) p w
theorem neq25 (p : Option Addr) (w : World) : (binOp .neq 25 (.pointer p) (.pointer p)).run Try.prog w = .ok (.bool false) w := neq_same 25 _ Try.underlying25 (by kernel_rfl) p w
theorem neq26 (p : Option Addr) (w : World) : (binOp .neq 26 (.pointer p) (.pointer p)).run Try.prog w = .ok (.bool false) w := neq_same 26 _ Try.underlying26 (by kernel_rfl) p w
theorem low_any (D : Nat) (w : World) (l : ByteArray) (h : w.cell? ⟨D, 4, none⟩ = some (.string l)) : Calls Try.prog 8 #[.pointer (some ⟨D, 0, none⟩)] w fun e w' => e = .returned (.string l) ∧ w = w' := by
  go_enter Try.func8, Try.ntmps8
  go_wp2
  go_ret
  exact ⟨rfl, rfl⟩
theorem len_any (D : Nat) (w : World) (n : Int) (h : w.cell? ⟨D, 16, none⟩ = some (.int .i32 n)) : Calls Try.prog 9 #[.pointer (some ⟨D, 0, none⟩)] w fun e w' => e = .returned (.int .i32 n) ∧ w = w' := by
  go_enter Try.func9, Try.ntmps9
  go_wp2
  go_ret
  exact ⟨rfl, rfl⟩
theorem or_twice (a b : Option Addr) : a.or (a.or b) = a.or b := by cases a <;> rfl
theorem if_twice {α : Type} (c : Prop) [Decidable c] (a b : α) : (if c then a else if c then a else b) = if c then a else b := by by_cases h : c <;> simp [h]
theorem ap (D : Nat) (w : World) (sd f l sb fb lb : ByteArray) (n nb : Int) (U P S A pU pP pS pA : Option Addr) (f' l' : ByteArray) (n' : Int) (U' P' S' A' : Option Addr) (HR : w.rowIs D 53 29 (F sd f l n U P S A))
    (hf : f' = if pP.isSome then fb else f) (hl : l' = if 0 < nb then lb else l) (hn : n' = if 0 < nb then nb else n) (hU : U' = pU.or U) (hP : P' = pP.or P) (hS : S' = pS.or S) (hA : A' = pA.or A) :
    Calls Try.prog 6 #[.pointer (some ⟨D, 0, none⟩), .agg (cfg sb fb lb nb pU pP pS pA)] w fun e w' => e = .returned (.tuple #[]) ∧ After D (F sd f' l' n' U' P' S' A') w w' := by
  subst hf hl hn hU hP hS hA
  exact apply_any D w sd f l sb fb lb n nb U P S A pU pP pS pA HR
theorem other (D B : Nat) (G : Nat → Value) (w w' : World) (o : Obj) (h : After D G w w') (hne : B ≠ D) (hlt : B < w.heap.size) (hb : w.heap[B]? = some o) : w'.heap[B]? = some o := (h.2.2.2.2.2 B hne hlt).trans hb
theorem after_lt (D B : Nat) (G : Nat → Value) (w w' : World) (h : After D G w w') (hlt : B < w.heap.size) : B < w'.heap.size := Nat.lt_of_lt_of_le hlt h.2.2.2.2.1
set_option maxRecDepth 100000 in
set_option maxHeartbeats 4000000 in
theorem walk (a0 : Int) (a1 : Int) (a2 : Int) (a3 : Int) (a4 : Int) (a5 : Int) (w : World) (w0 : (Lit.int .u8 a0).wf = true) (w1 : (Lit.int .u8 a1).wf = true) (w2 : (Lit.int .u8 a2).wf = true) (w3 : (Lit.int .i32 a3).wf = true) (w4 : (Lit.int .i32 a4).wf = true) (w5 : (Lit.int .i32 a5).wf = true) :
    Calls Try.prog 4 #[.int .u8 a0, .int .u8 a1, .int .u8 a2, .int .i32 a3, .int .i32 a4, .int .i32 a5] w fun e w' => e = .returned (.bool true) ∧ Below w.heap.size w w' := by
  have M := Lib.hid mk_any
  clear w0 w1 w2 w3 w4 w5
  go_enter Try.func4, Try.ntmps4
  go_wp2_with fail
  refine (M.out _ _ _ _ _ _ _).mono ?_
  rintro e wd ⟨pUd, pPd, pSd, pAd, rfl, hd, hbd, q1, q2, q4, q8⟩
  have HD := Lib.hid hd
  clear q1 q2 q4 q8 hd
  go_wp2_with fail
  refine (M.out _ _ _ _ _ _ _).mono ?_
  rintro e wk ⟨pU1, pP1, pS1, pA1, rfl, hc, hbc, r1, r2, r4, r8⟩
  have HC := Lib.hid hc; have R1 := Lib.hid r1; have R2 := Lib.hid r2; have R4 := Lib.hid r4; have R8 := Lib.hid r8
  clear hc r1 r2 r4 r8
  go_wp2_with fail
  refine (M.out _ _ _ _ _ _ _).mono ?_
  rintro e wb ⟨pU2, pP2, pS2, pA2, rfl, hb, hbb, s1, s2, s4, s8⟩
  have HB := Lib.hid hb; have S1 := Lib.hid s1; have S2 := Lib.hid s2; have S4 := Lib.hid s4; have S8 := Lib.hid s8
  clear hb s1 s2 s4 s8 M
  have ltd := (row_of HD.out).lt
  have ltc := (row_of HC.out).lt
  have hd : wb.heap[w.heap.size]? = _ := (hbb.block w.heap.size (Nat.lt_of_lt_of_le ltd hbc.size)).trans ((hbc.block w.heap.size ltd).trans HD.out)
  have hc : wb.heap[wd.heap.size]? = _ := (hbb.block wd.heap.size ltc).trans HC.out
  have RD := row_of hd; have RC := row_of hc; have RB := row_of HB.out
  have HC2 := Lib.hid hc
  have BEL := Lib.hid (show Below w.heap.size w wb from below_join (below_join hbd (by omega) hbc) (by have := hbc.size; omega) hbb)
  have ne1 : wd.heap.size ≠ w.heap.size := by omega
  have ne2 : wk.heap.size ≠ w.heap.size := by have := hbc.size; omega
  have lt1 := RC.lt
  have lt2 := RB.lt
  have cd17 : wb.cell? ⟨w.heap.size, 17, none⟩ = some (.pointer pSd) := RD.cell (i := 17) (by omega)
  have cd18 : wb.cell? ⟨w.heap.size, 18, none⟩ = some (.pointer pAd) := RD.cell (i := 18) (by omega)
  have cd1 : wb.cell? ⟨w.heap.size, 1, none⟩ = some (.pointer pUd) := RD.cell (i := 1) (by omega)
  have cd3 : wb.cell? ⟨w.heap.size, 3, none⟩ = some (.pointer pPd) := RD.cell (i := 3) (by omega)
  have c117 : wb.cell? ⟨wd.heap.size, 17, none⟩ = some (.pointer pS1) := RC.cell (i := 17) (by omega)
  have c118 : wb.cell? ⟨wd.heap.size, 18, none⟩ = some (.pointer pA1) := RC.cell (i := 18) (by omega)
  have c11 : wb.cell? ⟨wd.heap.size, 1, none⟩ = some (.pointer pU1) := RC.cell (i := 1) (by omega)
  have c13 : wb.cell? ⟨wd.heap.size, 3, none⟩ = some (.pointer pP1) := RC.cell (i := 3) (by omega)
  have c217 : wb.cell? ⟨wk.heap.size, 17, none⟩ = some (.pointer pS2) := RB.cell (i := 17) (by omega)
  have c218 : wb.cell? ⟨wk.heap.size, 18, none⟩ = some (.pointer pA2) := RB.cell (i := 18) (by omega)
  have c21 : wb.cell? ⟨wk.heap.size, 1, none⟩ = some (.pointer pU2) := RB.cell (i := 1) (by omega)
  have c23 : wb.cell? ⟨wk.heap.size, 3, none⟩ = some (.pointer pP2) := RB.cell (i := 3) (by omega)
  have RDH := Lib.hid RD
  clear RD RC RB hd hc hbb hbc hbd HD HC ltd ltc
  have NE1 := Lib.hid ne1; have NE2 := Lib.hid ne2; have LT1 := Lib.hid lt1; have LT2 := Lib.hid lt2; clear ne1 ne2 lt1 lt2
  obtain ⟨S1n, ES1n⟩ : ∃ S1n : Option Addr, Hid (S1n = pS1.or pSd) := ⟨_, Lib.hid rfl⟩
  obtain ⟨S2n, ES2n⟩ : ∃ S2n : Option Addr, Hid (S2n = pS2.or S1n) := ⟨_, Lib.hid rfl⟩
  obtain ⟨A1n, EA1n⟩ : ∃ A1n : Option Addr, Hid (A1n = pA1.or pAd) := ⟨_, Lib.hid rfl⟩
  obtain ⟨A2n, EA2n⟩ : ∃ A2n : Option Addr, Hid (A2n = pA2.or A1n) := ⟨_, Lib.hid rfl⟩
  obtain ⟨U1n, EU1n⟩ : ∃ U1n : Option Addr, Hid (U1n = pU1.or pUd) := ⟨_, Lib.hid rfl⟩
  obtain ⟨U2n, EU2n⟩ : ∃ U2n : Option Addr, Hid (U2n = pU2.or U1n) := ⟨_, Lib.hid rfl⟩
  obtain ⟨P1n, EP1n⟩ : ∃ P1n : Option Addr, Hid (P1n = pP1.or pPd) := ⟨_, Lib.hid rfl⟩
  obtain ⟨P2n, EP2n⟩ : ∃ P2n : Option Addr, Hid (P2n = pP2.or P1n) := ⟨_, Lib.hid rfl⟩
  obtain ⟨f1, Ef1⟩ : ∃ f1 : ByteArray, Hid (f1 = if pP1.isSome then { data := #[47, 98, 49, 45, 112, 97, 116, 104, 115] } else { data := #[47, 100, 45, 112, 97, 116, 104, 115] }) := ⟨_, Lib.hid rfl⟩
  obtain ⟨f2, Ef2⟩ : ∃ f2 : ByteArray, Hid (f2 = if pP2.isSome then { data := #[47, 98, 50, 45, 112, 97, 116, 104, 115] } else f1) := ⟨_, Lib.hid rfl⟩
  obtain ⟨l1, El1⟩ : ∃ l1 : ByteArray, Hid (l1 = if 0 < a4 then { data := #[101, 115, 50, 48, 50, 50] } else { data := #[101, 115, 53] }) := ⟨_, Lib.hid rfl⟩
  obtain ⟨l2, El2⟩ : ∃ l2 : ByteArray, Hid (l2 = if 0 < a5 then { data := #[101, 115, 110, 101, 120, 116] } else l1) := ⟨_, Lib.hid rfl⟩
  obtain ⟨n1, En1⟩ : ∃ n1 : Int, Hid (n1 = if 0 < a4 then a4 else a3) := ⟨_, Lib.hid rfl⟩
  obtain ⟨n2, En2⟩ : ∃ n2 : Int, Hid (n2 = if 0 < a5 then a5 else n1) := ⟨_, Lib.hid rfl⟩
  go_upto_if 51 with (fail)
  go_cut [16] (fun s16 wx => s16 = .pointer S1n ∧ wb = wx)
  case first => as_aux_lemma =>
    rcases pS1 with _ | x
    all_goals
      have q := R1.out; simp only [Option.isSome_none, Option.isSome_some] at q
      go_wp2
      go_meet
      first | exact ⟨by rw [ES1n.out]; rfl, rfl⟩ | (case rel => exact ⟨by rw [ES1n.out]; rfl, rfl⟩)
  obtain ⟨rfl, rfl⟩ := hcut
  as_aux_lemma =>
   go_upto_if 58 with (fail)
   go_cut [16] (fun s16 wx => s16 = .pointer S2n ∧ wb = wx)
   case first => as_aux_lemma =>
     rcases pS2 with _ | x
     all_goals
       have q := S1.out; simp only [Option.isSome_none, Option.isSome_some] at q
       go_wp2
       go_meet
       first | exact ⟨by rw [ES2n.out]; rfl, rfl⟩ | (case rel => exact ⟨by rw [ES2n.out]; rfl, rfl⟩)
   obtain ⟨rfl, rfl⟩ := hcut
   as_aux_lemma =>
    go_upto_if 65 with (fail)
    go_cut [17] (fun s17 wx => s17 = .pointer A1n ∧ wb = wx)
    case first => as_aux_lemma =>
      rcases pA1 with _ | x
      all_goals
        have q := R2.out; simp only [Option.isSome_none, Option.isSome_some] at q
        go_wp2
        go_meet
        first | exact ⟨by rw [EA1n.out]; rfl, rfl⟩ | (case rel => exact ⟨by rw [EA1n.out]; rfl, rfl⟩)
    obtain ⟨rfl, rfl⟩ := hcut
    as_aux_lemma =>
     go_upto_if 72 with (fail)
     go_cut [17] (fun s17 wx => s17 = .pointer A2n ∧ wb = wx)
     case first => as_aux_lemma =>
       rcases pA2 with _ | x
       all_goals
         have q := S2.out; simp only [Option.isSome_none, Option.isSome_some] at q
         go_wp2
         go_meet
         first | exact ⟨by rw [EA2n.out]; rfl, rfl⟩ | (case rel => exact ⟨by rw [EA2n.out]; rfl, rfl⟩)
     obtain ⟨rfl, rfl⟩ := hcut
     as_aux_lemma =>
      go_upto_if 79 with (fail)
      go_cut [18] (fun s18 wx => s18 = .pointer U1n ∧ wb = wx)
      case first => as_aux_lemma =>
        rcases pU1 with _ | x
        all_goals
          have q := R4.out; simp only [Option.isSome_none, Option.isSome_some] at q
          go_wp2
          go_meet
          first | exact ⟨by rw [EU1n.out]; rfl, rfl⟩ | (case rel => exact ⟨by rw [EU1n.out]; rfl, rfl⟩)
      obtain ⟨rfl, rfl⟩ := hcut
      as_aux_lemma =>
       go_upto_if 86 with (fail)
       go_cut [18] (fun s18 wx => s18 = .pointer U2n ∧ wb = wx)
       case first => as_aux_lemma =>
         rcases pU2 with _ | x
         all_goals
           have q := S4.out; simp only [Option.isSome_none, Option.isSome_some] at q
           go_wp2
           go_meet
           first | exact ⟨by rw [EU2n.out]; rfl, rfl⟩ | (case rel => exact ⟨by rw [EU2n.out]; rfl, rfl⟩)
       obtain ⟨rfl, rfl⟩ := hcut
       as_aux_lemma =>
        go_upto_if 93 with (fail)
        go_cut [19, 20] (fun s19 s20 wx => s19 = .pointer P1n ∧ s20 = .string f1 ∧ wb = wx)
        case first => as_aux_lemma =>
          rcases pP1 with _ | x
          all_goals
            have q := R8.out; simp only [Option.isSome_none, Option.isSome_some] at q
            go_wp2
            go_meet
            first | exact ⟨by rw [EP1n.out]; rfl, by rw [Ef1.out]; rfl, rfl⟩ | (case rel => exact ⟨by rw [EP1n.out]; rfl, by rw [Ef1.out]; rfl, rfl⟩)
        obtain ⟨rfl, rfl, rfl⟩ := hcut
        as_aux_lemma =>
         go_upto_if 100 with (fail)
         go_cut [19, 20] (fun s19 s20 wx => s19 = .pointer P2n ∧ s20 = .string f2 ∧ wb = wx)
         case first => as_aux_lemma =>
           rcases pP2 with _ | x
           all_goals
             have q := S8.out; simp only [Option.isSome_none, Option.isSome_some] at q
             go_wp2
             go_meet
             first | exact ⟨by rw [EP2n.out]; rfl, by rw [Ef2.out]; rfl, rfl⟩ | (case rel => exact ⟨by rw [EP2n.out]; rfl, by rw [Ef2.out]; rfl, rfl⟩)
         obtain ⟨rfl, rfl, rfl⟩ := hcut
         as_aux_lemma =>
          go_upto_if 106 with (fail)
          go_cut [21, 22] (fun s21 s22 wx => s21 = .string l1 ∧ s22 = .int .i32 n1 ∧ wb = wx)
          case first => as_aux_lemma =>
            by_cases hq : 0 < a4
            all_goals
              go_wp2
              go_meet
              first | exact ⟨by rw [El1.out]; first | rw [if_pos (by omega)] | rw [if_neg (by omega)], by rw [En1.out]; first | rw [if_pos (by omega)] | rw [if_neg (by omega)], rfl⟩ | (case rel => exact ⟨by rw [El1.out]; first | rw [if_pos (by omega)] | rw [if_neg (by omega)], by rw [En1.out]; first | rw [if_pos (by omega)] | rw [if_neg (by omega)], rfl⟩)
          obtain ⟨rfl, rfl, rfl⟩ := hcut
          as_aux_lemma =>
           go_upto_if 109 with (fail)
           go_cut [21, 22] (fun s21 s22 wx => s21 = .string l2 ∧ s22 = .int .i32 n2 ∧ wb = wx)
           case first => as_aux_lemma =>
             by_cases hq : 0 < a5
             all_goals
               go_wp2
               go_meet
               first | exact ⟨by rw [El2.out]; first | rw [if_pos (by omega)] | rw [if_neg (by omega)], by rw [En2.out]; first | rw [if_pos (by omega)] | rw [if_neg (by omega)], rfl⟩ | (case rel => exact ⟨by rw [El2.out]; first | rw [if_pos (by omega)] | rw [if_neg (by omega)], by rw [En2.out]; first | rw [if_pos (by omega)] | rw [if_neg (by omega)], rfl⟩)
           obtain ⟨rfl, rfl, rfl⟩ := hcut
           as_aux_lemma =>
            clear cd17 cd18 cd1 cd3 c117 c118 c11 c13 c217 c218 c21 c23 R1 R2 R4 R8 S1 S2 S4 S8
            have AP1 := Lib.hid (ap w.heap.size wb { data := #[47, 100, 47, 116, 115, 99, 111, 110, 102, 105, 103, 46, 106, 115, 111, 110] } { data := #[47, 100, 45, 112, 97, 116, 104, 115] } { data := #[101, 115, 53] } { data := #[47, 98, 49, 47, 116, 115, 99, 111, 110, 102, 105, 103, 46, 106, 115, 111, 110] } { data := #[47, 98, 49, 45, 112, 97, 116, 104, 115] } { data := #[101, 115, 50, 48, 50, 50] } a3 a4 pUd pPd pSd pAd pU1 pP1 pS1 pA1 f1 l1 n1 U1n P1n S1n A1n RDH.out Ef1.out El1.out En1.out EU1n.out EP1n.out ES1n.out EA1n.out)
            have x24 := neq24; have x25 := neq25; have x26 := neq26
            have qf : (f2.toList != f2.toList) = false := by simp
            have ql : (l2.toList != l2.toList) = false := by simp
            have qn : (n2 != n2) = false := by simp
            go_wp2_with (refine wpList_load_row rfl 53 _ rfl wd.heap.size rfl 53 _ (0, 0) _ HC2.out Try.underlying53 rfl (by kernel_rfl) ?_)
            refine AP1.out.mono ?_
            rintro e w1 ⟨rfl, ha1⟩
            have HB1 := Lib.hid (other _ wk.heap.size _ _ _ _ ha1 NE2.out LT2.out HB.out)
            have LT3 := Lib.hid (after_lt _ wk.heap.size _ _ _ ha1 LT2.out)
            have AP2 := Lib.hid (ap w.heap.size w1 { data := #[47, 100, 47, 116, 115, 99, 111, 110, 102, 105, 103, 46, 106, 115, 111, 110] } f1 l1 { data := #[47, 98, 50, 47, 116, 115, 99, 111, 110, 102, 105, 103, 46, 106, 115, 111, 110] } { data := #[47, 98, 50, 45, 112, 97, 116, 104, 115] } { data := #[101, 115, 110, 101, 120, 116] } n1 a5 U1n P1n S1n A1n pU2 pP2 pS2 pA2 f2 l2 n2 U2n P2n S2n A2n ha1.1 Ef2.out El2.out En2.out EU2n.out EP2n.out ES2n.out EA2n.out)
            have BU1 := Lib.hid ha1.2
            clear ha1
            as_aux_lemma =>
             go_wp2_with (refine wpList_load_row rfl 53 _ rfl wk.heap.size rfl 53 _ (0, 0) _ HB1.out Try.underlying53 rfl (by kernel_rfl) ?_)
             refine AP2.out.mono ?_
             rintro e w2 ⟨rfl, ha2⟩
             have HB2 := Lib.hid (other _ wk.heap.size _ _ _ _ ha2 NE2.out LT3.out HB1.out)
             have AP3 := Lib.hid (ap w.heap.size w2 { data := #[47, 100, 47, 116, 115, 99, 111, 110, 102, 105, 103, 46, 106, 115, 111, 110] } f2 l2 { data := #[47, 98, 50, 47, 116, 115, 99, 111, 110, 102, 105, 103, 46, 106, 115, 111, 110] } { data := #[47, 98, 50, 45, 112, 97, 116, 104, 115] } { data := #[101, 115, 110, 101, 120, 116] } n2 a5 U2n P2n S2n A2n pU2 pP2 pS2 pA2 f2 l2 n2 U2n P2n S2n A2n ha2.1 (by rw [Ef2.out, if_twice]) (by rw [El2.out, if_twice]) (by rw [En2.out, if_twice]) (by rw [EU2n.out, or_twice]) (by rw [EP2n.out, or_twice]) (by rw [ES2n.out, or_twice]) (by rw [EA2n.out, or_twice]))
             have c0 : w2.cell? ⟨w.heap.size, 0, none⟩ = some (.string { data := #[47, 100, 47, 116, 115, 99, 111, 110, 102, 105, 103, 46, 106, 115, 111, 110] }) := ha2.1.cell (i := 0) (by omega)
             have c1 : w2.cell? ⟨w.heap.size, 1, none⟩ = some (.pointer U2n) := ha2.1.cell (i := 1) (by omega)
             have c2 : w2.cell? ⟨w.heap.size, 2, none⟩ = some (.string f2) := ha2.1.cell (i := 2) (by omega)
             have c3 : w2.cell? ⟨w.heap.size, 3, none⟩ = some (.pointer P2n) := ha2.1.cell (i := 3) (by omega)
             have c4 : w2.cell? ⟨w.heap.size, 4, none⟩ = some (.string l2) := ha2.1.cell (i := 4) (by omega)
             have c16 : w2.cell? ⟨w.heap.size, 16, none⟩ = some (.int .i32 n2) := ha2.1.cell (i := 16) (by omega)
             have c17 : w2.cell? ⟨w.heap.size, 17, none⟩ = some (.pointer S2n) := ha2.1.cell (i := 17) (by omega)
             have c18 : w2.cell? ⟨w.heap.size, 18, none⟩ = some (.pointer A2n) := ha2.1.cell (i := 18) (by omega)
             have LO := Lib.hid (low_any w.heap.size w2 l2 c4); have LE := Lib.hid (len_any w.heap.size w2 n2 c16)
             have BU2 := Lib.hid (BU1.out.trans ha2.2)
             clear ha2
             as_aux_lemma =>
              go_wp2_with (first | (go_at_call 8; refine LO.out.mono ?_; rintro e w' ⟨rfl, rfl⟩) | (go_at_call 9; refine LE.out.mono ?_; rintro e w' ⟨rfl, rfl⟩) | (refine wpList_load_row rfl 53 _ rfl wk.heap.size rfl 53 _ (0, 0) _ HB2.out Try.underlying53 rfl (by kernel_rfl) ?_) | (go_at_call 6; fail))
              refine AP3.out.mono ?_
              rintro e w3 ⟨rfl, ha3⟩
              clear c0 c1 c2 c3 c4 c16 c17 c18 LO LE
              have c0 : w3.cell? ⟨w.heap.size, 0, none⟩ = some (.string { data := #[47, 100, 47, 116, 115, 99, 111, 110, 102, 105, 103, 46, 106, 115, 111, 110] }) := ha3.1.cell (i := 0) (by omega)
              have c1 : w3.cell? ⟨w.heap.size, 1, none⟩ = some (.pointer U2n) := ha3.1.cell (i := 1) (by omega)
              have c2 : w3.cell? ⟨w.heap.size, 2, none⟩ = some (.string f2) := ha3.1.cell (i := 2) (by omega)
              have c3 : w3.cell? ⟨w.heap.size, 3, none⟩ = some (.pointer P2n) := ha3.1.cell (i := 3) (by omega)
              have c4 : w3.cell? ⟨w.heap.size, 4, none⟩ = some (.string l2) := ha3.1.cell (i := 4) (by omega)
              have c16 : w3.cell? ⟨w.heap.size, 16, none⟩ = some (.int .i32 n2) := ha3.1.cell (i := 16) (by omega)
              have c17 : w3.cell? ⟨w.heap.size, 17, none⟩ = some (.pointer S2n) := ha3.1.cell (i := 17) (by omega)
              have c18 : w3.cell? ⟨w.heap.size, 18, none⟩ = some (.pointer A2n) := ha3.1.cell (i := 18) (by omega)
              have LO := Lib.hid (low_any w.heap.size w3 l2 c4); have LE := Lib.hid (len_any w.heap.size w3 n2 c16)
              have BU3 := Lib.hid (BU2.out.trans ha3.2)
              clear ha3
              as_aux_lemma =>
               go_wp2_with (first | (go_at_call 8; refine LO.out.mono ?_; rintro e w' ⟨rfl, rfl⟩) | (go_at_call 9; refine LE.out.mono ?_; rintro e w' ⟨rfl, rfl⟩))
               go_ret
               exact ⟨rfl, But.below BEL.out (Nat.le_refl _) BU3.out BEL.out.size⟩
end Go.Proofs.Ytidigkkkdaeblaa.fnApplyExtendedConfigLastBaseWinsIdempotent
