/- zzItoa by its contract: it returns the decimal digits of a number. Condition: 0 <= n < 10^18. -/
import Derived.Test.YthenbnofpdjimaaRows
import Derived.Test.YthenbnofpdjimaaBase
import Derived.WalkKit
import Derived.ProofKit
import Derived.OpenShut
import Derived.ShutString
import Derived.WalkLawsBesides
import Derived.WalkSpells
import Derived.Handy
import Derived.Outline
import Derived.Deep.OwnRows
import Derived.Laws.IdiomStrings
namespace Go.Proofs.Ythenbnofpdjimaa.Itoa
open Go.ChangeShapes Go.WideShapes Go.ChangeAt Go.RowKit Go.Deep Go.Proofs.Ythenbnofpdjimaa.Base
set_option linter.unusedVariables false

/-! ### PLAIN -/
def digs (n : Nat) : List UInt8 := if h : n = 0 then [] else digs (n / 10) ++ [UInt8.ofNat (48 + n % 10)]
termination_by n
decreasing_by omega
theorem digs_zero : digs 0 = [] := by rw [digs]; simp
theorem digs_pos (n : Nat) (h : n ≠ 0) : digs n = digs (n / 10) ++ [UInt8.ofNat (48 + n % 10)] := by rw [digs]; simp [h]
theorem digs_step (n m : Nat) (d : List UInt8) (hm : m ≠ 0) (h : digs n = digs m ++ d) : digs n = digs (m / 10) ++ (UInt8.ofNat (48 + m % 10) :: d) := by
  rw [h, digs_pos m hm]; simp
theorem pow_step (m p : Nat) (h : m < 10 ^ p) (hm : 0 < m) : 1 ≤ p ∧ m / 10 < 10 ^ (p - 1) := by
  cases p with
  | zero => simp at h; omega
  | succ p => refine ⟨by omega, ?_⟩; rw [Nat.pow_succ] at h; simp; omega
def itoa (n : Nat) : ByteArray := if n = 0 then { data := #[48] } else ⟨(digs n).toArray⟩
/-- What lies in the buffer: zeros below p, the digits d from there on. -/
def buf (p : Nat) (d : List UInt8) (i : Nat) : Value := if i < p then .int .u8 0 else .int .u8 ((d.getD (i - p) 0).toNat : Int)
theorem buf_start (i : Nat) (h : i < 24) : Value.int .u8 0 = buf 24 [] i := by unfold buf; rw [if_pos h]
theorem buf_step (p m : Nat) (d : List UInt8) (hp : 1 ≤ p) (i : Nat) : (if i = p - 1 then Value.int .u8 (48 + (m : Int) % 10) else buf p d i) = buf (p - 1) (UInt8.ofNat (48 + m % 10) :: d) i := by
  unfold buf
  have e : ((UInt8.ofNat (48 + m % 10)).toNat : Int) = 48 + (m : Int) % 10 := by
    rw [UInt8.toNat_ofNat']; omega
  by_cases h : i = p - 1
  · subst h; rw [if_pos rfl, if_neg (by omega), Nat.sub_self, List.getD_cons_zero, e]
  · rw [if_neg h]
    by_cases h2 : i < p
    · rw [if_pos h2, if_pos (by omega)]
    · rw [if_neg h2, if_neg (by omega)]
      obtain ⟨j, hj⟩ : ∃ j, i - (p - 1) = j + 1 := ⟨i - p, by omega⟩
      have hj2 : i - p = j := by omega
      rw [hj, hj2]; simp

/-! ### THE WALK -/
theorem itoa_zero (w : World) : Calls Try.prog 23 #[.int .i64 0] w fun e w' => e = .returned (.string { data := #[48] }) ∧ Below w.heap.size w w' := by
  go_enter Try.func23, Try.ntmps23
  go_wp2
  go_ret
  exact ⟨rfl, Below.refl _ _⟩
theorem itoa_pos (n : Nat) (w : World) (h1 : 1 ≤ n) (h : n < 1000000000000000000) :
    Calls Try.prog 23 #[.int .i64 n] w fun e w' => e = .returned (.string ⟨(digs n).toArray⟩) ∧ Below w.heap.size w w' := by
  obtain ⟨v, hv⟩ : ∃ v : ByteArray, v = ⟨(digs n).toArray⟩ := ⟨_, rfl⟩
  rw [← hv]
  have HV := Lib.hid hv; clear hv
  have hn0 : ((n : Int) == 0) = false := by rw [beq_eq_false_iff_ne]; omega
  have hn1 : decide (n = 0) = false := by simp; omega
  go_enter Try.func23, Try.ntmps23
  go_wp2
  go_loopw [4, 0] (fun i t wr => ∃ (p m : Nat) (d : List UInt8), i = .int .i64 p ∧ t = .int .i64 m ∧ p + d.length = 24 ∧ m ≤ n ∧ Hid (m < 10 ^ p) ∧ Hid (digs n = digs m ++ d) ∧ Hid (p = 24 → m = n) ∧ wr.rowIs w.heap.size 63 24 (buf p d) ∧ Below w.heap.size w wr)
    (fun _ t _ => (intOf t).toNat)
  case atStart =>
    refine ⟨24, n, [], rfl, rfl, rfl, Nat.le_refl _, Lib.hid (by omega), Lib.hid (by simp), Lib.hid (fun _ => rfl), ?_, ?_⟩
    · exact (World.rowIs_alloc w (Array.replicate 24 (.int .u8 0)) 63 (fun _ => .int .u8 0) (fun i hi => by simp at hi; simp [hi])).congr buf_start
    · exact (Below.refl _ _).alloc (Nat.le_refl _) _
  case round =>
    obtain ⟨p, m, d, rfl, rfl, hpd, hmn, HP, HD, HZ, HR, hbel⟩ := hrel
    by_cases hm : 0 < m
    · have hp1 := (pow_step m p HP.out hm).1
      have HP2 := Lib.hid (pow_step m p HP.out hm).2
      have HD2 := Lib.hid (digs_step n m d (by omega) HD.out)
      have c0 : wr.cell? ⟨w.heap.size, p - 1, none⟩ = some (.int .u8 0) := by rw [HR.cell (by omega)]; unfold buf; rw [if_pos (by omega)]
      have f0 : wr.frozen? ⟨w.heap.size, p - 1, none⟩ = false := HR.frozen _
      have HR2 := Lib.hid ((HR.set (p - 1) (.int .u8 (48 + (m : Int) % 10))).congr (fun i _ => buf_step p m d hp1 i))
      have hb2 := Lib.hid (hbel.setCell (p := ⟨w.heap.size, p - 1, none⟩) (Nat.le_refl _) (.int .u8 (48 + (m : Int) % 10)))
      clear HR hbel
      go_wp2
      go_roundw
      case rel => exact ⟨p - 1, m / 10, UInt8.ofNat (48 + m % 10) :: d, by go_num, by go_num, by simp; omega, by omega, HP2, HD2, Lib.hid (by omega), HR2.out, hb2.out⟩
      case measure => simp [intOf]; omega
    · have hp2 : p < 24 := by
        rcases Nat.lt_or_ge p 24 with h | h
        · exact h
        · have := HZ.out (by omega); omega
      have hm0 : m = 0 := by omega
      have HD3 := Lib.hid (show digs n = d by have := HD.out; rw [hm0, digs_zero] at this; simpa using this)
      have hlen : d.length = 24 - p := by omega
      have hconv := run_convert_bytes_back (P := Try.prog) wr 64 9 5 ⟨w.heap.size, p, none⟩ (24 - p) d Try.underlying64 Try.underlying5 Try.underlying9 (fun j hj => by
        have e : (⟨w.heap.size, p, none⟩ : Addr).add j = ⟨w.heap.size, p + j, none⟩ := by simp [Addr.add]
        rw [e, HR.cell (by omega)]; unfold buf; rw [if_neg (by omega), Nat.add_sub_cancel_left]
        simp [List.getD, hj])
      rw [hlen] at hconv
      have BEL := Lib.hid hbel
      clear HR hbel hm0 hlen
      have hp3 : (p : Int) ≤ 24 := by omega
      have hp4 : ¬ 24 = p := by omega
      go_wp2
      go_ret
      exact ⟨ret_string (by rw [HV.out, HD3.out]), BEL.out⟩
theorem itoa_any (n : Nat) (w : World) (h : n < 1000000000000000000) :
    Calls Try.prog 23 #[.int .i64 n] w fun e w' => e = .returned (.string (itoa n)) ∧ Below w.heap.size w w' := by
  unfold itoa
  by_cases h0 : n = 0
  · subst h0; rw [if_pos rfl]; exact itoa_zero w
  · rw [if_neg h0]; exact itoa_pos n w (by omega) h
end Go.Proofs.Ythenbnofpdjimaa.Itoa
