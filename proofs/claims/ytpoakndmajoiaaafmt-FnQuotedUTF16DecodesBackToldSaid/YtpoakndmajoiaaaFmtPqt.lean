/- printQuotedUTF16 by its contract: a quote, what Esq says, the quote; the quote is a function of the units, the syntax flag and the caller's flag. Conditions: lengths; none on the units. -/
import Derived.Test.YtpoakndmajoiaaaFmtUnq
import Derived.Deep.QuietTactic
namespace Go.Proofs.YtpoakndmajoiaaaFmt.Pqt
open Go.RowKit Go.Deep Go.Proofs.YtpoakndmajoiaaaFmt.Base Go.Proofs.YtpoakndmajoiaaaFmt.Sls Go.Proofs.YtpoakndmajoiaaaFmt.Byw Go.Proofs.YtpoakndmajoiaaaFmt.Prq Go.Proofs.YtpoakndmajoiaaaFmt.Esq Go.Proofs.YtpoakndmajoiaaaFmt.Enc Go.Proofs.YtpoakndmajoiaaaFmt.Unb Go.Proofs.YtpoakndmajoiaaaFmt.Unq
set_option linter.unusedVariables false
def cst (U : List Nat) (c : Nat) : Nat → Nat
  | 0 => 0
  | k + 1 => cst U c k + (if U.getD k 0 = c then 1 else 0)
theorem cst_le (U : List Nat) (c : Nat) : ∀ k, cst U c k ≤ k
  | 0 => Nat.le_refl _
  | k + 1 => by
    unfold cst
    have := cst_le U c k
    split <;> omega
def bk1 (mi : Bool) (U : List Nat) (k : Nat) : Int :=
  if U.getD k 0 = 10 then (if mi then -1 else 0) else if U.getD k 0 = 96 then 1 else if U.getD k 0 = 36 ∧ k + 1 < U.length ∧ U.getD (k + 1) 0 = 123 then 1 else 0
def bk (mi : Bool) (U : List Nat) : Nat → Int
  | 0 => 0
  | k + 1 => bk mi U k + bk1 mi U k
theorem bk1_in (mi : Bool) (U : List Nat) (k : Nat) : -1 ≤ bk1 mi U k ∧ bk1 mi U k ≤ 1 := by
  unfold bk1
  split
  · split <;> omega
  · split
    · omega
    · split <;> omega
theorem bk_in (mi : Bool) (U : List Nat) : ∀ k : Nat, -(k : Int) ≤ bk mi U k ∧ bk mi U k ≤ k
  | 0 => by unfold bk; omega
  | k + 1 => by
    unfold bk
    have := bk_in mi U k
    have := bk1_in mi U k
    omega
/-- The quote. -/
def qch (mi fl : Bool) (U : List Nat) : Nat :=
  if cst U 39 U.length < cst U 34 U.length then (if bk mi U U.length < cst U 39 U.length ∧ fl = true then 96 else 39)
  else (if bk mi U U.length < cst U 34 U.length ∧ fl = true then 96 else 34)
/-- What printQuotedUTF16 writes. -/
def quoted (mi fl : Bool) (U : List Nat) : List UInt8 := [UInt8.ofNat (qch mi fl U)] ++ rest U (qch mi fl U) 0 ++ [UInt8.ofNat (qch mi fl U)]
theorem us_of {w : World} {b0 base n1 c1 : Nat} {B : Option Addr} {U : List Nat} {v : Value} {xs : List Value} (hU : Own w b0 29 (.slice B n1 c1) (uv U)) (ho : Own w base 5 v xs) : Us w v.ownBlock B U := by
  intro k hk
  obtain ⟨x, hx, hb, hc⟩ := hU.rd.at_ (uv_at U k hk)
  subst hx
  refine ⟨x, rfl, fun e => ?_, hb, hc⟩
  obtain ⟨cur, mk, h1⟩ := ho.shape _ e
  obtain ⟨cur', mk', h2⟩ := hU.shape x.block rfl
  rw [h2] at h1
  injection h1 with h1
  injection h1 with _ h1
  exact absurd h1 (by decide)
theorem own_two {w w' : World} {r : Option Nat} {pb b0 base e : Nat} {m : Bool × Bool} {v v' : Value} {xs ys : List Value} (ht : Two r pb w w') (hr : r = v.ownBlock) (hp : Prn w pb m v) (ho : Own w base 5 v xs) (hU : Own w b0 e v' ys) (he : e ≠ 5) (he2 : e ≠ 85) : Own w' b0 e v' ys := by
  refine ht.own hU (fun g hg => ?_)
  obtain ⟨cur', mk', h2⟩ := hU.shape g hg
  refine ⟨fun h => ?_, fun h => ?_⟩
  · rw [hr] at h
    obtain ⟨cur, mk, h1⟩ := ho.shape g h
    rw [h2] at h1
    injection h1 with h1
    injection h1 with _ h1
    exact he h1
  · subst h
    obtain ⟨cs, hb, _⟩ := hp
    rw [h2] at hb
    injection hb with hb
    injection hb with _ h9
    exact he2 h9
set_option maxRecDepth 20000 in
/-- The quote, the units, the quote. -/
theorem trio (pb base n c n1 c1 b0 : Nat) (mi : Bool × Bool) (A B : Option Addr) (l : List UInt8) (U : List Nat) (q : Nat) (F : Int) (w : World) (hp : Prn w pb mi (.slice A n c)) (ho : Own w base 5 (.slice A n c) (bv l)) (hl : n = l.length) (hb : base ≤ w.heap.size)
    (hU : Own w b0 29 (.slice B n1 c1) (uv U)) (hn : n1 = U.length) (hW : Wf U) (hq : q = 34 ∨ q = 39 ∨ q = 96) (hz : l.length + 6 * U.length + 16 ≤ 1073741000) (s : ByteArray) (hs : s.data.toList = [UInt8.ofNat q]) :
    Calls Tryf.prog 16 #[.pointer (some ⟨pb, 0, none⟩), .string s] w fun e w1 => e = .returned (.tuple #[]) ∧ Calls Tryf.prog 17 #[.pointer (some ⟨pb, 0, none⟩), .slice B n1 c1, .int .i32 (q : Int), .int .u8 F] w1 fun e w2 => e = .returned (.tuple #[]) ∧ Calls Tryf.prog 16 #[.pointer (some ⟨pb, 0, none⟩), .string s] w2 fun e w3 => Pd pb mi (Value.slice A n c).ownBlock base (l ++ ([UInt8.ofNat q] ++ rest U q 0 ++ [UInt8.ofNat q])) w e w3 := by
  have hss : s.size = 1 := by rw [← len_list, hs]; rfl
  refine (print27 pb base n c mi A l s w (by omega) hl hp ho hb).mono ?_
  rintro e w1 ⟨rfl, A1, n1', c1', q1⟩
  refine ⟨rfl, ?_⟩
  have U1 := own_two q1.two rfl hp ho hU (by decide) (by decide)
  have hz1 := q1.two.size
  refine (unq28 pb base n1' c1' n1 c1 mi A1 B _ U q F w1 q1.prn q1.own q1.len (by omega) (us_of U1 q1.own) hn hW hq (by rw [List.length_append, hs]; simp; omega)).mono ?_
  rintro e w2 ⟨rfl, A2, n2, c2, q2⟩
  refine ⟨rfl, ?_⟩
  have hz2 := q2.two.size
  have hrl : (rest U q 0).length ≤ 6 * U.length := rest_len U q _ 0
  refine (print27 pb base n2 c2 mi A2 _ s w2 (by rw [List.length_append, List.length_append, hs, hss]; simp; omega) q2.len q2.prn q2.own (by omega)).mono ?_
  rintro e w3 ⟨rfl, A3, n3, c3, q3⟩
  refine ⟨rfl, A3, n3, c3, ?_⟩
  have := (q1.trans q2).trans q3
  rw [hs, List.append_assoc, List.append_assoc] at this
  rw [List.append_assoc]
  exact this
theorem q28 {a b f : Value} {q q' : Int} {w : World} {Q : Ending → World → Prop} (h : Calls Tryf.prog 17 #[a, b, .int .i32 q, f] w Q) (e : q' = q) : Calls Tryf.prog 17 #[a, b, .int .i32 q', f] w Q := by rw [e]; exact h
def Jc (mi : Bool) (U : List Nat) (a b c i : Value) : Prop := ∃ k : Nat, k ≤ U.length ∧ i = .int .i64 k ∧ a = .int .i64 (cst U 39 k : Nat) ∧ b = .int .i64 (cst U 34 k : Nat) ∧ c = .int .i64 (bk mi U k)
theorem hasF (x : Int) (hx : x = 72057594037927936) (w : World) : Calls Tryf.prog 15 #[.int .u64 0, .int .u64 x] w fun e w' => e = .returned (.bool false) ∧ w = w' := by
  subst hx
  go_enter Tryf.func15, Tryf.ntmps15
  go_wp2
  go_ret
  exact ⟨rfl, rfl⟩
theorem hasT (x : Int) (hx : x = 72057594037927936) (w : World) : Calls Tryf.prog 15 #[.int .u64 72057594037927936, .int .u64 x] w fun e w' => e = .returned (.bool true) ∧ w = w' := by
  subst hx
  go_enter Tryf.func15, Tryf.ntmps15
  go_wp2
  go_ret
  exact ⟨rfl, rfl⟩
set_option maxRecDepth 20000 in
set_option maxHeartbeats 16000000 in
theorem pqF (pb base n c n1 c1 b0 : Nat) (m1 : Bool) (A B : Option Addr) (l : List UInt8) (U : List Nat) (F : Int) (w : World) (hp : Prn w pb (m1, false) (.slice A n c)) (ho : Own w base 5 (.slice A n c) (bv l)) (hl : n = l.length) (hb : base ≤ w.heap.size)
    (hU : Own w b0 29 (.slice B n1 c1) (uv U)) (hn : n1 = U.length) (hW : Wf U) (hz : l.length + 6 * U.length + 16 ≤ 1073741000) :
    Calls Tryf.prog 13 #[.pointer (some ⟨pb, 0, none⟩), .slice B n1 c1, .int .u8 F] w (Pd pb (m1, false) (Value.slice A n c).ownBlock base (l ++ quoted m1 (bits .and .u8 F 1 != 0) U) w) := by
  have TR := Lib.hid (fun q hq s hs => trio pb base n c n1 c1 b0 (m1, false) A B l U q F w hp ho hl hb hU hn hW hq hz s hs)
  have US := Lib.hid (us_of hU ho)
  have h24 := hp.cells.2.1
  rw [show ft (m1, false) = 0 from rfl] at h24
  have h30 := hp.cells.2.2.2.1
  rw [show (m1, false).1 = m1 from rfl] at h30
  have H26 := Lib.hid (fun w => hasF 72057594037927936 rfl w)
  have HWF := Lib.hid hW
  subst hn
  have hUz : U.length ≤ 178956850 := by omega
  clear hp ho hl hU hW hz
  go_enter Tryf.func13, Tryf.ntmps13
  go_wp2_with (first | (go_at_call 15; refine (H26.out _).mono ?_; rintro e w7 ⟨rfl, rfl⟩) | fail)
  go_loop [6, 7, 8, 22] (fun a b c i => Jc m1 U a b c i) (fun _ _ _ i => U.length - (intOf i).toNat)
  case atStart => exact ⟨0, Nat.zero_le _, rfl, rfl, rfl, rfl⟩
  case round =>
    obtain ⟨k, hk0, rfl, rfl, rfl, rfl⟩ := hrel
    have c1a := cst_le U 39 k; have c2a := cst_le U 34 k; have c3a := bk_in m1 U k
    by_cases hk : k < U.length
    · obtain ⟨x, rfl, hxr, hxb, hx⟩ := US.out k hk
      have hkn : (k : Int) < (U.length : Int) := by omega
      have S1 : Hid (cst U 39 (k + 1) = cst U 39 k + (if U.getD k 0 = 39 then 1 else 0)) := Lib.hid rfl
      have S2 : Hid (cst U 34 (k + 1) = cst U 34 k + (if U.getD k 0 = 34 then 1 else 0)) := Lib.hid rfl
      have S3 : Hid (bk m1 U (k + 1) = bk m1 U k + bk1 m1 U k) := Lib.hid rfl
      have REL : Hid (∀ (a b : Nat) (c : Int), cst U 39 (k + 1) = a → cst U 34 (k + 1) = b → bk m1 U (k + 1) = c → Jc m1 U (.int .i64 (a : Int)) (.int .i64 (b : Int)) (.int .i64 c) (.int .i64 ((k : Int) + 1))) := Lib.hid fun a b c h1 h2 h3 => ⟨k + 1, by omega, by go_num, by rw [h1], by rw [h2], by rw [h3]⟩
      obtain ⟨a0, ha0⟩ : ∃ a0, a0 = cst U 39 k := ⟨_, rfl⟩
      obtain ⟨b0', hb0⟩ : ∃ b0, b0 = cst U 34 k := ⟨_, rfl⟩
      obtain ⟨t0, ht0⟩ : ∃ t0, t0 = bk m1 U k := ⟨_, rfl⟩
      rw [← ha0] at S1 c1a ⊢
      rw [← hb0] at S2 c2a ⊢
      rw [← ht0] at S3 c3a ⊢
      obtain ⟨c3b, c3c⟩ := c3a
      clear ha0 hb0 ht0
      by_cases hc : U.getD k 0 = 10
      · cases m1
        · have hx' : w.cell? (x.add k) = some (.int .u16 10) := by rw [hx, hc]; rfl
          have R1 : Hid (cst U 39 (k + 1) = a0) := Lib.hid (by rw [S1.out, hc]; rfl)
          have R2 : Hid (cst U 34 (k + 1) = b0') := Lib.hid (by rw [S2.out, hc]; rfl)
          have R3 : Hid (bk _ U (k + 1) = t0) := Lib.hid (by rw [S3.out]; unfold bk1; rw [hc]; simp)
          clear hx hc S1 S2 S3
          go_wp2_with (fail)
          go_round
          case rel => exact REL.out _ _ _ R1.out R2.out R3.out
          case measure => simp [intOf]; omega
        · have hx' : w.cell? (x.add k) = some (.int .u16 10) := by rw [hx, hc]; rfl
          have R1 : Hid (cst U 39 (k + 1) = a0) := Lib.hid (by rw [S1.out, hc]; rfl)
          have R2 : Hid (cst U 34 (k + 1) = b0') := Lib.hid (by rw [S2.out, hc]; rfl)
          have R3 : Hid (bk _ U (k + 1) = t0 - 1) := Lib.hid (by rw [S3.out]; unfold bk1; rw [hc]; simp; omega)
          clear hx hc S1 S2 S3
          go_wp2_with (fail)
          go_round
          case rel => exact REL.out _ _ _ R1.out R2.out R3.out
          case measure => simp [intOf]; omega
      · have n10 := hc
        clear hc
        by_cases hc : U.getD k 0 = 39
        · have hx' : w.cell? (x.add k) = some (.int .u16 39) := by rw [hx, hc]; rfl
          have R1 : Hid (cst U 39 (k + 1) = a0 + 1) := Lib.hid (by rw [S1.out, hc]; rfl)
          have R2 : Hid (cst U 34 (k + 1) = b0') := Lib.hid (by rw [S2.out, hc]; rfl)
          have R3 : Hid (bk _ U (k + 1) = t0) := Lib.hid (by rw [S3.out]; unfold bk1; rw [hc]; simp)
          clear hx hc S1 S2 S3
          go_wp2_with (fail)
          go_round
          case rel => exact REL.out _ _ _ R1.out R2.out R3.out
          case measure => simp [intOf]; omega
        · have n39 := hc
          clear hc
          by_cases hc : U.getD k 0 = 34
          · have hx' : w.cell? (x.add k) = some (.int .u16 34) := by rw [hx, hc]; rfl
            have R1 : Hid (cst U 39 (k + 1) = a0) := Lib.hid (by rw [S1.out, hc]; rfl)
            have R2 : Hid (cst U 34 (k + 1) = b0' + 1) := Lib.hid (by rw [S2.out, hc]; rfl)
            have R3 : Hid (bk _ U (k + 1) = t0) := Lib.hid (by rw [S3.out]; unfold bk1; rw [hc]; simp)
            clear hx hc S1 S2 S3
            go_wp2_with (fail)
            go_round
            case rel => exact REL.out _ _ _ R1.out R2.out R3.out
            case measure => simp [intOf]; omega
          · have n34 := hc
            clear hc
            by_cases hc : U.getD k 0 = 96
            · have hx' : w.cell? (x.add k) = some (.int .u16 96) := by rw [hx, hc]; rfl
              have R1 : Hid (cst U 39 (k + 1) = a0) := Lib.hid (by rw [S1.out, hc]; rfl)
              have R2 : Hid (cst U 34 (k + 1) = b0') := Lib.hid (by rw [S2.out, hc]; rfl)
              have R3 : Hid (bk m1 U (k + 1) = t0 + 1) := Lib.hid (by rw [S3.out]; unfold bk1; rw [hc]; simp)
              clear hx hc S1 S2 S3
              go_wp2_with (fail)
              go_round
              case rel => exact REL.out _ _ _ R1.out R2.out R3.out
              case measure => simp [intOf]; omega
            · have n96 := hc
              clear hc
              by_cases hc : U.getD k 0 = 36
              · have hx' : w.cell? (x.add k) = some (.int .u16 36) := by rw [hx, hc]; rfl
                have R1 : Hid (cst U 39 (k + 1) = a0) := Lib.hid (by rw [S1.out, hc]; rfl)
                have R2 : Hid (cst U 34 (k + 1) = b0') := Lib.hid (by rw [S2.out, hc]; rfl)
                by_cases hd1 : k + 1 < U.length
                · obtain ⟨x', hx'', hxr', hxb', hd⟩ := US.out (k + 1) hd1
                  injection hx'' with hx''
                  subst hx''
                  rw [add_pos x (k + 1) (by omega)] at hd
                  have t9 : (k : Int) + 1 < (U.length : Int) := by omega
                  by_cases hd2 : U.getD (k + 1) 0 = 123
                  · have R3 : Hid (bk m1 U (k + 1) = t0 + 1) := Lib.hid (by rw [S3.out]; unfold bk1; rw [hc, if_neg (by decide), if_neg (by decide), if_pos ⟨rfl, hd1, hd2⟩])
                    clear hx hc S1 S2 S3
                    obtain ⟨dd, hdd⟩ : ∃ dd, dd = U.getD (k + 1) 0 := ⟨_, rfl⟩
                    rw [← hdd] at hd hd2
                    clear hdd
                    have t1 : ((dd : Int) == 123) = true := by rw [beq_iff_eq]; omega
                    clear hd2
                    go_wp2_with (fail)
                    go_round
                    case rel => exact REL.out _ _ _ R1.out R2.out R3.out
                    case measure => simp [intOf]; omega
                  · have R3 : Hid (bk m1 U (k + 1) = t0) := Lib.hid (by rw [S3.out]; unfold bk1; rw [hc, if_neg (by decide), if_neg (by decide), if_neg (fun h => hd2 h.2.2)]; omega)
                    clear hx hc S1 S2 S3
                    obtain ⟨dd, hdd⟩ : ∃ dd, dd = U.getD (k + 1) 0 := ⟨_, rfl⟩
                    rw [← hdd] at hd hd2
                    clear hdd
                    have t1 : ((dd : Int) == 123) = false := by rw [beq_eq_false_iff_ne]; omega
                    clear hd2
                    go_wp2_with (fail)
                    go_round
                    case rel => exact REL.out _ _ _ R1.out R2.out R3.out
                    case measure => simp [intOf]; omega
                · have t9 : ¬ (k : Int) + 1 < (U.length : Int) := by omega
                  have R3 : Hid (bk m1 U (k + 1) = t0) := Lib.hid (by rw [S3.out]; unfold bk1; rw [hc, if_neg (by decide), if_neg (by decide), if_neg (fun h => hd1 h.2.1)]; omega)
                  clear hx hc S1 S2 S3
                  go_wp2_with (fail)
                  go_round
                  case rel => exact REL.out _ _ _ R1.out R2.out R3.out
                  case measure => simp [intOf]; omega
              · have R1 : Hid (cst U 39 (k + 1) = a0) := Lib.hid (by rw [S1.out, if_neg n39]; rfl)
                have R2 : Hid (cst U 34 (k + 1) = b0') := Lib.hid (by rw [S2.out, if_neg n34]; rfl)
                have R3 : Hid (bk m1 U (k + 1) = t0) := Lib.hid (by rw [S3.out]; unfold bk1; rw [if_neg n10, if_neg n96, if_neg (fun h => hc h.1)]; omega)
                obtain ⟨c0, hc0⟩ : ∃ c0, c0 = U.getD k 0 := ⟨_, rfl⟩
                rw [← hc0] at hx n10 n39 n34 n96 hc
                have e0 : ((c0 : Int) == 10) = false := by rw [beq_eq_false_iff_ne]; omega
                have e1 : ((c0 : Int) == 39) = false := by rw [beq_eq_false_iff_ne]; omega
                have e2 : ((c0 : Int) == 34) = false := by rw [beq_eq_false_iff_ne]; omega
                have e3 : ((c0 : Int) == 96) = false := by rw [beq_eq_false_iff_ne]; omega
                have e4 : ((c0 : Int) == 36) = false := by rw [beq_eq_false_iff_ne]; omega
                clear hc0 n10 n39 n34 n96 hc S1 S2 S3
                go_wp2_with (fail)
                go_round
                case rel => exact REL.out _ _ _ R1.out R2.out R3.out
                case measure => simp [intOf]; omega
    · obtain rfl : k = U.length := by omega
      have hkn : ¬ ((U.length : Nat) : Int) < ((U.length : Nat) : Int) := by omega
      obtain ⟨G, hG⟩ : ∃ G, bits .and .u8 F 1 = G := ⟨_, rfl⟩
      obtain ⟨fl, hfl⟩ : ∃ fl, (G != 0) = fl := ⟨_, rfl⟩
      rw [hG, hfl]
      have HFL := Lib.hid hfl
      have HFB : Hid ((bits .and .u8 F 1 != 0) = fl) := Lib.hid (by rw [hG]; exact hfl)
      have QD : Hid (qch m1 fl U = if cst U 39 U.length < cst U 34 U.length then (if bk m1 U U.length < cst U 39 U.length ∧ fl = true then 96 else 39) else (if bk m1 U U.length < cst U 34 U.length ∧ fl = true then 96 else 34)) := Lib.hid rfl
      have TQ := Lib.hid (fun q hq s hs (e : qch m1 fl U = q) => (show Calls _ _ _ _ (fun e w1 => _ ∧ Calls _ _ _ _ (fun e w2 => _ ∧ Calls _ _ _ _ (fun e w3 => Pd pb (m1, false) (Value.slice A n c).ownBlock base (l ++ quoted m1 fl U) w e w3))) by unfold quoted; rw [e]; exact TR.out q hq s hs))
      clear TR hfl US HWF
      obtain ⟨s9, hs9⟩ : ∃ s9, s9 = cst U 39 U.length := ⟨_, rfl⟩
      obtain ⟨d9, hd9⟩ : ∃ d9, d9 = cst U 34 U.length := ⟨_, rfl⟩
      obtain ⟨t9, ht9⟩ : ∃ t9, t9 = bk m1 U U.length := ⟨_, rfl⟩
      rw [← hs9, ← hd9, ← ht9] at QD ⊢
      rw [← hs9] at c1a
      rw [← hd9] at c2a
      rw [← ht9] at c3a
      clear hs9 hd9 ht9
      by_cases h1 : (s9 : Int) < (d9 : Int)
      · have hn1 : s9 < d9 := by omega
        by_cases h2 : t9 < (s9 : Int)
        · by_cases hg : G = 0
          · subst hg
            have hfl0 : fl = false := by rw [← HFL.out]; rfl
            subst hfl0
            have TT := TQ.out 39 (by omega) { data := #[39] } rfl (by rw [QD.out]; simp [*])
            clear TQ QD
            go_wp2_with (first | (go_at_call 16; first | (refine TT.mono ?_; rintro e w1 ⟨rfl, T1⟩; have TU := Lib.hid T1; clear T1 TT) | (refine TV.out.mono ?_; rintro e w3 ⟨rfl, T3⟩; have TW := Lib.hid T3; clear T3 TV)) | (go_at_call 17; refine (q28 TU.out (by kernel_rfl)).mono ?_; rintro e w2 ⟨rfl, T2⟩; have TV := Lib.hid T2; clear T2 TU) | fail)
            go_end0
            rw [HFB.out]; exact ⟨rfl, TW.out⟩
          · have hg1 : (G == 0) = false := by rw [beq_eq_false_iff_ne]; exact hg
            have hg2 : (G != 0) = true := by rw [bne_iff_ne]; exact hg
            have hfl0 : fl = true := by rw [← HFL.out]; exact hg2
            subst hfl0
            clear hg
            have TT := TQ.out 96 (by omega) { data := #[96] } rfl (by rw [QD.out]; simp [*])
            clear TQ QD
            go_wp2_with (first | (go_at_call 16; first | (refine TT.mono ?_; rintro e w1 ⟨rfl, T1⟩; have TU := Lib.hid T1; clear T1 TT) | (refine TV.out.mono ?_; rintro e w3 ⟨rfl, T3⟩; have TW := Lib.hid T3; clear T3 TV)) | (go_at_call 17; refine (q28 TU.out (by kernel_rfl)).mono ?_; rintro e w2 ⟨rfl, T2⟩; have TV := Lib.hid T2; clear T2 TU) | fail)
            go_end0
            rw [HFB.out]; exact ⟨rfl, TW.out⟩
        · have TT := TQ.out 39 (by omega) { data := #[39] } rfl (by rw [QD.out]; simp [*])
          clear TQ QD
          go_wp2_with (first | (go_at_call 16; first | (refine TT.mono ?_; rintro e w1 ⟨rfl, T1⟩; have TU := Lib.hid T1; clear T1 TT) | (refine TV.out.mono ?_; rintro e w3 ⟨rfl, T3⟩; have TW := Lib.hid T3; clear T3 TV)) | (go_at_call 17; refine (q28 TU.out (by kernel_rfl)).mono ?_; rintro e w2 ⟨rfl, T2⟩; have TV := Lib.hid T2; clear T2 TU) | fail)
          go_end0
          rw [HFB.out]; exact ⟨rfl, TW.out⟩
      · have hn1 : ¬ s9 < d9 := by omega
        by_cases h2 : t9 < (d9 : Int)
        · by_cases hg : G = 0
          · subst hg
            have hfl0 : fl = false := by rw [← HFL.out]; rfl
            subst hfl0
            have TT := TQ.out 34 (by omega) { data := #[34] } rfl (by rw [QD.out]; simp [*])
            clear TQ QD
            go_wp2_with (first | (go_at_call 16; first | (refine TT.mono ?_; rintro e w1 ⟨rfl, T1⟩; have TU := Lib.hid T1; clear T1 TT) | (refine TV.out.mono ?_; rintro e w3 ⟨rfl, T3⟩; have TW := Lib.hid T3; clear T3 TV)) | (go_at_call 17; refine (q28 TU.out (by kernel_rfl)).mono ?_; rintro e w2 ⟨rfl, T2⟩; have TV := Lib.hid T2; clear T2 TU) | fail)
            go_end0
            rw [HFB.out]; exact ⟨rfl, TW.out⟩
          · have hg1 : (G == 0) = false := by rw [beq_eq_false_iff_ne]; exact hg
            have hg2 : (G != 0) = true := by rw [bne_iff_ne]; exact hg
            have hfl0 : fl = true := by rw [← HFL.out]; exact hg2
            subst hfl0
            clear hg
            have TT := TQ.out 96 (by omega) { data := #[96] } rfl (by rw [QD.out]; simp [*])
            clear TQ QD
            go_wp2_with (first | (go_at_call 16; first | (refine TT.mono ?_; rintro e w1 ⟨rfl, T1⟩; have TU := Lib.hid T1; clear T1 TT) | (refine TV.out.mono ?_; rintro e w3 ⟨rfl, T3⟩; have TW := Lib.hid T3; clear T3 TV)) | (go_at_call 17; refine (q28 TU.out (by kernel_rfl)).mono ?_; rintro e w2 ⟨rfl, T2⟩; have TV := Lib.hid T2; clear T2 TU) | fail)
            go_end0
            rw [HFB.out]; exact ⟨rfl, TW.out⟩
        · have TT := TQ.out 34 (by omega) { data := #[34] } rfl (by rw [QD.out]; simp [*])
          clear TQ QD
          go_wp2_with (first | (go_at_call 16; first | (refine TT.mono ?_; rintro e w1 ⟨rfl, T1⟩; have TU := Lib.hid T1; clear T1 TT) | (refine TV.out.mono ?_; rintro e w3 ⟨rfl, T3⟩; have TW := Lib.hid T3; clear T3 TV)) | (go_at_call 17; refine (q28 TU.out (by kernel_rfl)).mono ?_; rintro e w2 ⟨rfl, T2⟩; have TV := Lib.hid T2; clear T2 TU) | fail)
          go_end0
          rw [HFB.out]; exact ⟨rfl, TW.out⟩
set_option maxRecDepth 20000 in
set_option maxHeartbeats 16000000 in
theorem pqT (pb base n c n1 c1 b0 : Nat) (m1 : Bool) (A B : Option Addr) (l : List UInt8) (U : List Nat) (F0 F : Int) (hF : bits .and .u8 F0 254 = F) (w : World) (hp : Prn w pb (m1, true) (.slice A n c)) (ho : Own w base 5 (.slice A n c) (bv l)) (hl : n = l.length) (hb : base ≤ w.heap.size)
    (hU : Own w b0 29 (.slice B n1 c1) (uv U)) (hn : n1 = U.length) (hW : Wf U) (hz : l.length + 6 * U.length + 16 ≤ 1073741000) :
    Calls Tryf.prog 13 #[.pointer (some ⟨pb, 0, none⟩), .slice B n1 c1, .int .u8 F0] w (Pd pb (m1, true) (Value.slice A n c).ownBlock base (l ++ quoted m1 (bits .and .u8 F 1 != 0) U) w) := by
  have TR := Lib.hid (fun q hq s hs => trio pb base n c n1 c1 b0 (m1, true) A B l U q F w hp ho hl hb hU hn hW hq hz s hs)
  have US := Lib.hid (us_of hU ho)
  have h24 := hp.cells.2.1
  rw [show ft (m1, true) = 72057594037927936 from rfl] at h24
  have h30 := hp.cells.2.2.2.1
  rw [show (m1, true).1 = m1 from rfl] at h30
  have H26 := Lib.hid (fun w => hasT 72057594037927936 rfl w)
  have HWF := Lib.hid hW
  subst hn
  have hUz : U.length ≤ 178956850 := by omega
  clear hp ho hl hU hW hz
  go_enter Tryf.func13, Tryf.ntmps13
  go_wp2_with (first | (go_at_call 15; refine (H26.out _).mono ?_; rintro e w7 ⟨rfl, rfl⟩) | fail)
  go_loop [6, 7, 8, 22] (fun a b c i => Jc m1 U a b c i) (fun _ _ _ i => U.length - (intOf i).toNat)
  case atStart => exact ⟨0, Nat.zero_le _, rfl, rfl, rfl, rfl⟩
  case round =>
    obtain ⟨k, hk0, rfl, rfl, rfl, rfl⟩ := hrel
    have c1a := cst_le U 39 k; have c2a := cst_le U 34 k; have c3a := bk_in m1 U k
    by_cases hk : k < U.length
    · obtain ⟨x, rfl, hxr, hxb, hx⟩ := US.out k hk
      have hkn : (k : Int) < (U.length : Int) := by omega
      have S1 : Hid (cst U 39 (k + 1) = cst U 39 k + (if U.getD k 0 = 39 then 1 else 0)) := Lib.hid rfl
      have S2 : Hid (cst U 34 (k + 1) = cst U 34 k + (if U.getD k 0 = 34 then 1 else 0)) := Lib.hid rfl
      have S3 : Hid (bk m1 U (k + 1) = bk m1 U k + bk1 m1 U k) := Lib.hid rfl
      have REL : Hid (∀ (a b : Nat) (c : Int), cst U 39 (k + 1) = a → cst U 34 (k + 1) = b → bk m1 U (k + 1) = c → Jc m1 U (.int .i64 (a : Int)) (.int .i64 (b : Int)) (.int .i64 c) (.int .i64 ((k : Int) + 1))) := Lib.hid fun a b c h1 h2 h3 => ⟨k + 1, by omega, by go_num, by rw [h1], by rw [h2], by rw [h3]⟩
      obtain ⟨a0, ha0⟩ : ∃ a0, a0 = cst U 39 k := ⟨_, rfl⟩
      obtain ⟨b0', hb0⟩ : ∃ b0, b0 = cst U 34 k := ⟨_, rfl⟩
      obtain ⟨t0, ht0⟩ : ∃ t0, t0 = bk m1 U k := ⟨_, rfl⟩
      rw [← ha0] at S1 c1a ⊢
      rw [← hb0] at S2 c2a ⊢
      rw [← ht0] at S3 c3a ⊢
      obtain ⟨c3b, c3c⟩ := c3a
      clear ha0 hb0 ht0
      by_cases hc : U.getD k 0 = 10
      · cases m1
        · have hx' : w.cell? (x.add k) = some (.int .u16 10) := by rw [hx, hc]; rfl
          have R1 : Hid (cst U 39 (k + 1) = a0) := Lib.hid (by rw [S1.out, hc]; rfl)
          have R2 : Hid (cst U 34 (k + 1) = b0') := Lib.hid (by rw [S2.out, hc]; rfl)
          have R3 : Hid (bk _ U (k + 1) = t0) := Lib.hid (by rw [S3.out]; unfold bk1; rw [hc]; simp)
          clear hx hc S1 S2 S3
          go_wp2_with (fail)
          go_round
          case rel => exact REL.out _ _ _ R1.out R2.out R3.out
          case measure => simp [intOf]; omega
        · have hx' : w.cell? (x.add k) = some (.int .u16 10) := by rw [hx, hc]; rfl
          have R1 : Hid (cst U 39 (k + 1) = a0) := Lib.hid (by rw [S1.out, hc]; rfl)
          have R2 : Hid (cst U 34 (k + 1) = b0') := Lib.hid (by rw [S2.out, hc]; rfl)
          have R3 : Hid (bk _ U (k + 1) = t0 - 1) := Lib.hid (by rw [S3.out]; unfold bk1; rw [hc]; simp; omega)
          clear hx hc S1 S2 S3
          go_wp2_with (fail)
          go_round
          case rel => exact REL.out _ _ _ R1.out R2.out R3.out
          case measure => simp [intOf]; omega
      · have n10 := hc
        clear hc
        by_cases hc : U.getD k 0 = 39
        · have hx' : w.cell? (x.add k) = some (.int .u16 39) := by rw [hx, hc]; rfl
          have R1 : Hid (cst U 39 (k + 1) = a0 + 1) := Lib.hid (by rw [S1.out, hc]; rfl)
          have R2 : Hid (cst U 34 (k + 1) = b0') := Lib.hid (by rw [S2.out, hc]; rfl)
          have R3 : Hid (bk _ U (k + 1) = t0) := Lib.hid (by rw [S3.out]; unfold bk1; rw [hc]; simp)
          clear hx hc S1 S2 S3
          go_wp2_with (fail)
          go_round
          case rel => exact REL.out _ _ _ R1.out R2.out R3.out
          case measure => simp [intOf]; omega
        · have n39 := hc
          clear hc
          by_cases hc : U.getD k 0 = 34
          · have hx' : w.cell? (x.add k) = some (.int .u16 34) := by rw [hx, hc]; rfl
            have R1 : Hid (cst U 39 (k + 1) = a0) := Lib.hid (by rw [S1.out, hc]; rfl)
            have R2 : Hid (cst U 34 (k + 1) = b0' + 1) := Lib.hid (by rw [S2.out, hc]; rfl)
            have R3 : Hid (bk _ U (k + 1) = t0) := Lib.hid (by rw [S3.out]; unfold bk1; rw [hc]; simp)
            clear hx hc S1 S2 S3
            go_wp2_with (fail)
            go_round
            case rel => exact REL.out _ _ _ R1.out R2.out R3.out
            case measure => simp [intOf]; omega
          · have n34 := hc
            clear hc
            by_cases hc : U.getD k 0 = 96
            · have hx' : w.cell? (x.add k) = some (.int .u16 96) := by rw [hx, hc]; rfl
              have R1 : Hid (cst U 39 (k + 1) = a0) := Lib.hid (by rw [S1.out, hc]; rfl)
              have R2 : Hid (cst U 34 (k + 1) = b0') := Lib.hid (by rw [S2.out, hc]; rfl)
              have R3 : Hid (bk m1 U (k + 1) = t0 + 1) := Lib.hid (by rw [S3.out]; unfold bk1; rw [hc]; simp)
              clear hx hc S1 S2 S3
              go_wp2_with (fail)
              go_round
              case rel => exact REL.out _ _ _ R1.out R2.out R3.out
              case measure => simp [intOf]; omega
            · have n96 := hc
              clear hc
              by_cases hc : U.getD k 0 = 36
              · have hx' : w.cell? (x.add k) = some (.int .u16 36) := by rw [hx, hc]; rfl
                have R1 : Hid (cst U 39 (k + 1) = a0) := Lib.hid (by rw [S1.out, hc]; rfl)
                have R2 : Hid (cst U 34 (k + 1) = b0') := Lib.hid (by rw [S2.out, hc]; rfl)
                by_cases hd1 : k + 1 < U.length
                · obtain ⟨x', hx'', hxr', hxb', hd⟩ := US.out (k + 1) hd1
                  injection hx'' with hx''
                  subst hx''
                  rw [add_pos x (k + 1) (by omega)] at hd
                  have t9 : (k : Int) + 1 < (U.length : Int) := by omega
                  by_cases hd2 : U.getD (k + 1) 0 = 123
                  · have R3 : Hid (bk m1 U (k + 1) = t0 + 1) := Lib.hid (by rw [S3.out]; unfold bk1; rw [hc, if_neg (by decide), if_neg (by decide), if_pos ⟨rfl, hd1, hd2⟩])
                    clear hx hc S1 S2 S3
                    obtain ⟨dd, hdd⟩ : ∃ dd, dd = U.getD (k + 1) 0 := ⟨_, rfl⟩
                    rw [← hdd] at hd hd2
                    clear hdd
                    have t1 : ((dd : Int) == 123) = true := by rw [beq_iff_eq]; omega
                    clear hd2
                    go_wp2_with (fail)
                    go_round
                    case rel => exact REL.out _ _ _ R1.out R2.out R3.out
                    case measure => simp [intOf]; omega
                  · have R3 : Hid (bk m1 U (k + 1) = t0) := Lib.hid (by rw [S3.out]; unfold bk1; rw [hc, if_neg (by decide), if_neg (by decide), if_neg (fun h => hd2 h.2.2)]; omega)
                    clear hx hc S1 S2 S3
                    obtain ⟨dd, hdd⟩ : ∃ dd, dd = U.getD (k + 1) 0 := ⟨_, rfl⟩
                    rw [← hdd] at hd hd2
                    clear hdd
                    have t1 : ((dd : Int) == 123) = false := by rw [beq_eq_false_iff_ne]; omega
                    clear hd2
                    go_wp2_with (fail)
                    go_round
                    case rel => exact REL.out _ _ _ R1.out R2.out R3.out
                    case measure => simp [intOf]; omega
                · have t9 : ¬ (k : Int) + 1 < (U.length : Int) := by omega
                  have R3 : Hid (bk m1 U (k + 1) = t0) := Lib.hid (by rw [S3.out]; unfold bk1; rw [hc, if_neg (by decide), if_neg (by decide), if_neg (fun h => hd1 h.2.1)]; omega)
                  clear hx hc S1 S2 S3
                  go_wp2_with (fail)
                  go_round
                  case rel => exact REL.out _ _ _ R1.out R2.out R3.out
                  case measure => simp [intOf]; omega
              · have R1 : Hid (cst U 39 (k + 1) = a0) := Lib.hid (by rw [S1.out, if_neg n39]; rfl)
                have R2 : Hid (cst U 34 (k + 1) = b0') := Lib.hid (by rw [S2.out, if_neg n34]; rfl)
                have R3 : Hid (bk m1 U (k + 1) = t0) := Lib.hid (by rw [S3.out]; unfold bk1; rw [if_neg n10, if_neg n96, if_neg (fun h => hc h.1)]; omega)
                obtain ⟨c0, hc0⟩ : ∃ c0, c0 = U.getD k 0 := ⟨_, rfl⟩
                rw [← hc0] at hx n10 n39 n34 n96 hc
                have e0 : ((c0 : Int) == 10) = false := by rw [beq_eq_false_iff_ne]; omega
                have e1 : ((c0 : Int) == 39) = false := by rw [beq_eq_false_iff_ne]; omega
                have e2 : ((c0 : Int) == 34) = false := by rw [beq_eq_false_iff_ne]; omega
                have e3 : ((c0 : Int) == 96) = false := by rw [beq_eq_false_iff_ne]; omega
                have e4 : ((c0 : Int) == 36) = false := by rw [beq_eq_false_iff_ne]; omega
                clear hc0 n10 n39 n34 n96 hc S1 S2 S3
                go_wp2_with (fail)
                go_round
                case rel => exact REL.out _ _ _ R1.out R2.out R3.out
                case measure => simp [intOf]; omega
    · obtain rfl : k = U.length := by omega
      have hkn : ¬ ((U.length : Nat) : Int) < ((U.length : Nat) : Int) := by omega
      obtain ⟨G, hG⟩ : ∃ G, bits .and .u8 F 1 = G := ⟨_, rfl⟩
      obtain ⟨fl, hfl⟩ : ∃ fl, (G != 0) = fl := ⟨_, rfl⟩
      rw [hG, hfl]
      have HFL := Lib.hid hfl
      have HFB : Hid ((bits .and .u8 F 1 != 0) = fl) := Lib.hid (by rw [hG]; exact hfl)
      have QD : Hid (qch m1 fl U = if cst U 39 U.length < cst U 34 U.length then (if bk m1 U U.length < cst U 39 U.length ∧ fl = true then 96 else 39) else (if bk m1 U U.length < cst U 34 U.length ∧ fl = true then 96 else 34)) := Lib.hid rfl
      have TQ := Lib.hid (fun q hq s hs (e : qch m1 fl U = q) => (show Calls _ _ _ _ (fun e w1 => _ ∧ Calls _ _ _ _ (fun e w2 => _ ∧ Calls _ _ _ _ (fun e w3 => Pd pb (m1, true) (Value.slice A n c).ownBlock base (l ++ quoted m1 fl U) w e w3))) by unfold quoted; rw [e]; exact TR.out q hq s hs))
      clear TR hfl US HWF
      obtain ⟨s9, hs9⟩ : ∃ s9, s9 = cst U 39 U.length := ⟨_, rfl⟩
      obtain ⟨d9, hd9⟩ : ∃ d9, d9 = cst U 34 U.length := ⟨_, rfl⟩
      obtain ⟨t9, ht9⟩ : ∃ t9, t9 = bk m1 U U.length := ⟨_, rfl⟩
      rw [← hs9, ← hd9, ← ht9] at QD ⊢
      rw [← hs9] at c1a
      rw [← hd9] at c2a
      rw [← ht9] at c3a
      clear hs9 hd9 ht9
      by_cases h1 : (s9 : Int) < (d9 : Int)
      · have hn1 : s9 < d9 := by omega
        by_cases h2 : t9 < (s9 : Int)
        · by_cases hg : G = 0
          · subst hg
            have hfl0 : fl = false := by rw [← HFL.out]; rfl
            subst hfl0
            have TT := TQ.out 39 (by omega) { data := #[39] } rfl (by rw [QD.out]; simp [*])
            clear TQ QD
            go_wp2_with (first | (go_at_call 16; first | (refine TT.mono ?_; rintro e w1 ⟨rfl, T1⟩; have TU := Lib.hid T1; clear T1 TT) | (refine TV.out.mono ?_; rintro e w3 ⟨rfl, T3⟩; have TW := Lib.hid T3; clear T3 TV)) | (go_at_call 17; refine (q28 TU.out (by kernel_rfl)).mono ?_; rintro e w2 ⟨rfl, T2⟩; have TV := Lib.hid T2; clear T2 TU) | fail)
            go_end0
            rw [HFB.out]; exact ⟨rfl, TW.out⟩
          · have hg1 : (G == 0) = false := by rw [beq_eq_false_iff_ne]; exact hg
            have hg2 : (G != 0) = true := by rw [bne_iff_ne]; exact hg
            have hfl0 : fl = true := by rw [← HFL.out]; exact hg2
            subst hfl0
            clear hg
            have TT := TQ.out 96 (by omega) { data := #[96] } rfl (by rw [QD.out]; simp [*])
            clear TQ QD
            go_wp2_with (first | (go_at_call 16; first | (refine TT.mono ?_; rintro e w1 ⟨rfl, T1⟩; have TU := Lib.hid T1; clear T1 TT) | (refine TV.out.mono ?_; rintro e w3 ⟨rfl, T3⟩; have TW := Lib.hid T3; clear T3 TV)) | (go_at_call 17; refine (q28 TU.out (by kernel_rfl)).mono ?_; rintro e w2 ⟨rfl, T2⟩; have TV := Lib.hid T2; clear T2 TU) | fail)
            go_end0
            rw [HFB.out]; exact ⟨rfl, TW.out⟩
        · have TT := TQ.out 39 (by omega) { data := #[39] } rfl (by rw [QD.out]; simp [*])
          clear TQ QD
          go_wp2_with (first | (go_at_call 16; first | (refine TT.mono ?_; rintro e w1 ⟨rfl, T1⟩; have TU := Lib.hid T1; clear T1 TT) | (refine TV.out.mono ?_; rintro e w3 ⟨rfl, T3⟩; have TW := Lib.hid T3; clear T3 TV)) | (go_at_call 17; refine (q28 TU.out (by kernel_rfl)).mono ?_; rintro e w2 ⟨rfl, T2⟩; have TV := Lib.hid T2; clear T2 TU) | fail)
          go_end0
          rw [HFB.out]; exact ⟨rfl, TW.out⟩
      · have hn1 : ¬ s9 < d9 := by omega
        by_cases h2 : t9 < (d9 : Int)
        · by_cases hg : G = 0
          · subst hg
            have hfl0 : fl = false := by rw [← HFL.out]; rfl
            subst hfl0
            have TT := TQ.out 34 (by omega) { data := #[34] } rfl (by rw [QD.out]; simp [*])
            clear TQ QD
            go_wp2_with (first | (go_at_call 16; first | (refine TT.mono ?_; rintro e w1 ⟨rfl, T1⟩; have TU := Lib.hid T1; clear T1 TT) | (refine TV.out.mono ?_; rintro e w3 ⟨rfl, T3⟩; have TW := Lib.hid T3; clear T3 TV)) | (go_at_call 17; refine (q28 TU.out (by kernel_rfl)).mono ?_; rintro e w2 ⟨rfl, T2⟩; have TV := Lib.hid T2; clear T2 TU) | fail)
            go_end0
            rw [HFB.out]; exact ⟨rfl, TW.out⟩
          · have hg1 : (G == 0) = false := by rw [beq_eq_false_iff_ne]; exact hg
            have hg2 : (G != 0) = true := by rw [bne_iff_ne]; exact hg
            have hfl0 : fl = true := by rw [← HFL.out]; exact hg2
            subst hfl0
            clear hg
            have TT := TQ.out 96 (by omega) { data := #[96] } rfl (by rw [QD.out]; simp [*])
            clear TQ QD
            go_wp2_with (first | (go_at_call 16; first | (refine TT.mono ?_; rintro e w1 ⟨rfl, T1⟩; have TU := Lib.hid T1; clear T1 TT) | (refine TV.out.mono ?_; rintro e w3 ⟨rfl, T3⟩; have TW := Lib.hid T3; clear T3 TV)) | (go_at_call 17; refine (q28 TU.out (by kernel_rfl)).mono ?_; rintro e w2 ⟨rfl, T2⟩; have TV := Lib.hid T2; clear T2 TU) | fail)
            go_end0
            rw [HFB.out]; exact ⟨rfl, TW.out⟩
        · have TT := TQ.out 34 (by omega) { data := #[34] } rfl (by rw [QD.out]; simp [*])
          clear TQ QD
          go_wp2_with (first | (go_at_call 16; first | (refine TT.mono ?_; rintro e w1 ⟨rfl, T1⟩; have TU := Lib.hid T1; clear T1 TT) | (refine TV.out.mono ?_; rintro e w3 ⟨rfl, T3⟩; have TW := Lib.hid T3; clear T3 TV)) | (go_at_call 17; refine (q28 TU.out (by kernel_rfl)).mono ?_; rintro e w2 ⟨rfl, T2⟩; have TV := Lib.hid T2; clear T2 TU) | fail)
          go_end0
          rw [HFB.out]; exact ⟨rfl, TW.out⟩
end Go.Proofs.YtpoakndmajoiaaaFmt.Pqt
