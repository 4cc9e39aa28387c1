/- The table of well-formed UTF-8 in the law's own file against the model's decoding. Condition: the place lies inside the string, of at most 2^20 bytes. -/
import Derived.Test.YtkepmnenafggjaaFmtBase
import Derived.Test.YtkepmnenafggjaaFmtProg
import Derived.WalkSpells
import Derived.WalkLawsBesides
import Derived.IntWalk
import Derived.Lib.DecodeN
import Derived.Lib.DecodeNEq
import Derived.Deep.QuietTactic
import Derived.BigQuiet
namespace Go.Proofs.YtkepmnenafggjaaFmt.Dec
open Go.RowKit Go.Proofs.YtkepmnenafggjaaFmt.Base
set_option linter.unusedVariables false
theorem get_lt (s : ByteArray) (k : Nat) (h : k < s.size) : s.get! k = s[k]'h := by
  simp [ByteArray.get!, getElem!_pos, h]
  rfl
/-- lo to hi. -/
def inB (b lo hi : Int) : Bool := decide (lo ≤ b ∧ b ≤ hi)
theorem in_yes (b lo hi : Int) (w : World) (h : inB b lo hi = true) : Calls Tryf.prog 14 #[.int .u8 b, .int .u8 lo, .int .u8 hi] w fun e w' => e = .returned (.bool true) ∧ w = w' := by
  unfold inB at h
  rw [decide_eq_true_eq] at h
  obtain ⟨h1, h2⟩ := h
  go_enter Tryf.func14, Tryf.ntmps14
  go_wp2
  go_ret
  exact ⟨rfl, rfl⟩
theorem in_no (b lo hi : Int) (w : World) (h : inB b lo hi = false) : Calls Tryf.prog 14 #[.int .u8 b, .int .u8 lo, .int .u8 hi] w fun e w' => e = .returned (.bool false) ∧ w = w' := by
  unfold inB at h
  rw [decide_eq_false_iff_not] at h
  by_cases h1 : lo ≤ b
  · have h2 : ¬ b ≤ hi := fun k => h ⟨h1, k⟩
    clear h
    go_enter Tryf.func14, Tryf.ntmps14
    go_wp2
    go_ret
    exact ⟨rfl, rfl⟩
  · clear h
    go_enter Tryf.func14, Tryf.ntmps14
    go_wp2
    go_ret
    exact ⟨rfl, rfl⟩
/-- It hands back the rune c of width n. -/
def Dc (c n : Nat) (w : World) (e : Ending) (w' : World) : Prop := ∃ k, e = .returned (.tuple #[.int .i32 c, .int .i64 n]) ∧ w' = w.drewN k
section
variable (s : ByteArray) (i : Nat) (w : World) (b0 b1 b2 b3 : Nat) (hm : s.size ≤ 1048576)
include hm
set_option maxRecDepth 100000 in
set_option maxHeartbeats 1000000 in
theorem ascii (hi : i < s.size) (h0 : ∀ h : i < s.size, (s[i]'h).toNat = b0) (u0 : b0 < 128) :
    Calls Tryf.prog 8 #[.string s, .int .i64 i] w (Dc (b0) 1 w) := by
  go_enter Tryf.func8, Tryf.ntmps8
  go_wp2_with fail
  go_ret2
  exact ⟨0, rfl, rfl⟩
set_option maxRecDepth 100000 in
set_option maxHeartbeats 1000000 in
theorem low (hi : i < s.size) (h0 : ∀ h : i < s.size, (s[i]'h).toNat = b0) (l0 : 128 ≤ b0) (u0 : b0 ≤ 193) :
    Calls Tryf.prog 8 #[.string s, .int .i64 i] w (Dc (65533) 1 w) := by
  go_enter Tryf.func8, Tryf.ntmps8
  go_wp2_with fail
  go_ret2
  exact ⟨0, rfl, rfl⟩
set_option maxRecDepth 100000 in
set_option maxHeartbeats 1000000 in
theorem high (hi : i < s.size) (h0 : ∀ h : i < s.size, (s[i]'h).toNat = b0) (l0 : 245 ≤ b0) (u0 : b0 ≤ 255) :
    Calls Tryf.prog 8 #[.string s, .int .i64 i] w (Dc (65533) 1 w) := by
  go_enter Tryf.func8, Tryf.ntmps8
  go_wp2_with fail
  go_ret2
  exact ⟨0, rfl, rfl⟩
set_option maxRecDepth 100000 in
set_option maxHeartbeats 1000000 in
theorem C2_short (hi : i < s.size) (hs : s.size < i + 2) (h0 : ∀ h : i < s.size, (s[i]'h).toNat = b0) (l0 : 194 ≤ b0) (u0 : b0 ≤ 223) :
    Calls Tryf.prog 8 #[.string s, .int .i64 i] w (Dc (65533) 1 w) := by
  have hmm := hm
  have hs2 : (s.size : Int) - (i : Int) < 2 := by omega
  go_enter Tryf.func8, Tryf.ntmps8
  go_wp2_with fail
  go_ret2
  exact ⟨0, rfl, rfl⟩
set_option maxRecDepth 100000 in
set_option maxHeartbeats 1000000 in
theorem C2_bad1 (hi : i + 1 < s.size) (h0 : ∀ h : i < s.size, (s[i]'h).toNat = b0) (l0 : 194 ≤ b0) (u0 : b0 ≤ 223) (h1 : ∀ h : i + 1 < s.size, (s[i + 1]'h).toNat = b1) (z1 : b1 < 256) (v1 : b1 < 128 ∨ 191 < b1) :
    Calls Tryf.prog 8 #[.string s, .int .i64 i] w (Dc (65533) 1 w) := by
  have hi0 : i < s.size := by omega
  have x1 : i + 1 < s.size := by omega
  have q0 : inB (b1 : Int) 128 191 = false := by unfold inB; rw [decide_eq_false_iff_not]; omega
  have Q0 := Lib.hid q0
  clear q0
  go_enter Tryf.func8, Tryf.ntmps8
  go_wp2_with (first | (go_at_call 14; (with_reducible refine (in_no (b1 : Int) 128 191 _ Q0.out).mono ?_); rintro e w' ⟨rfl, rfl⟩))
  go_ret2
  exact ⟨0, rfl, rfl⟩
set_option maxRecDepth 100000 in
set_option maxHeartbeats 1000000 in
theorem C2_ok (hi : i + 1 < s.size) (h0 : ∀ h : i < s.size, (s[i]'h).toNat = b0) (l0 : 194 ≤ b0) (u0 : b0 ≤ 223) (h1 : ∀ h : i + 1 < s.size, (s[i + 1]'h).toNat = b1) (l1 : 128 ≤ b1) (u1 : b1 ≤ 191) :
    Calls Tryf.prog 8 #[.string s, .int .i64 i] w (Dc (b0 % 32 * 64 + b1 % 64) 2 w) := by
  have hi0 : i < s.size := by omega
  have x1 : i + 1 < s.size := by omega
  have q0 : inB (b1 : Int) 128 191 = true := by unfold inB; rw [decide_eq_true_eq]; omega
  have Q0 := Lib.hid q0
  clear q0
  go_enter Tryf.func8, Tryf.ntmps8
  go_wp2_with (first | (go_at_call 14; (with_reducible refine (in_yes (b1 : Int) 128 191 _ Q0.out).mono ?_); rintro e w' ⟨rfl, rfl⟩))
  go_ret2
  exact ⟨0, rfl, rfl⟩
set_option maxRecDepth 100000 in
set_option maxHeartbeats 1000000 in
theorem E0_short (hi : i < s.size) (hs : s.size < i + 3) (h0 : ∀ h : i < s.size, (s[i]'h).toNat = b0) (l0 : 224 ≤ b0) (u0 : b0 ≤ 224) :
    Calls Tryf.prog 8 #[.string s, .int .i64 i] w (Dc (65533) 1 w) := by
  have n224 : ((b0 : Int) == 224) = true := by rw [beq_iff_eq]; omega
  have n237 : ((b0 : Int) == 237) = false := by rw [beq_eq_false_iff_ne]; omega
  have hmm := hm
  have hs2 : (s.size : Int) - (i : Int) < 3 := by omega
  go_enter Tryf.func8, Tryf.ntmps8
  go_wp2_with fail
  go_ret2
  exact ⟨0, rfl, rfl⟩
set_option maxRecDepth 100000 in
set_option maxHeartbeats 1000000 in
theorem E0_bad1 (hi : i + 2 < s.size) (h0 : ∀ h : i < s.size, (s[i]'h).toNat = b0) (l0 : 224 ≤ b0) (u0 : b0 ≤ 224) (h1 : ∀ h : i + 1 < s.size, (s[i + 1]'h).toNat = b1) (z1 : b1 < 256) (v1 : b1 < 160 ∨ 191 < b1) :
    Calls Tryf.prog 8 #[.string s, .int .i64 i] w (Dc (65533) 1 w) := by
  have hi0 : i < s.size := by omega
  have n224 : ((b0 : Int) == 224) = true := by rw [beq_iff_eq]; omega
  have n237 : ((b0 : Int) == 237) = false := by rw [beq_eq_false_iff_ne]; omega
  have x1 : i + 1 < s.size := by omega
  have q0 : inB (b1 : Int) 160 191 = false := by unfold inB; rw [decide_eq_false_iff_not]; omega
  have Q0 := Lib.hid q0
  clear q0
  go_enter Tryf.func8, Tryf.ntmps8
  go_wp2_with (first | (go_at_call 14; (with_reducible refine (in_no (b1 : Int) 160 191 _ Q0.out).mono ?_); rintro e w' ⟨rfl, rfl⟩))
  go_ret2
  exact ⟨0, rfl, rfl⟩
set_option maxRecDepth 100000 in
set_option maxHeartbeats 1000000 in
theorem E0_bad2 (hi : i + 2 < s.size) (h0 : ∀ h : i < s.size, (s[i]'h).toNat = b0) (l0 : 224 ≤ b0) (u0 : b0 ≤ 224) (h1 : ∀ h : i + 1 < s.size, (s[i + 1]'h).toNat = b1) (z1 : b1 < 256) (h2 : ∀ h : i + 2 < s.size, (s[i + 2]'h).toNat = b2) (z2 : b2 < 256) (l1 : 160 ≤ b1) (u1 : b1 ≤ 191) (v2 : b2 < 128 ∨ 191 < b2) :
    Calls Tryf.prog 8 #[.string s, .int .i64 i] w (Dc (65533) 1 w) := by
  have hi0 : i < s.size := by omega
  have n224 : ((b0 : Int) == 224) = true := by rw [beq_iff_eq]; omega
  have n237 : ((b0 : Int) == 237) = false := by rw [beq_eq_false_iff_ne]; omega
  have x1 : i + 1 < s.size := by omega
  have x2 : i + 2 < s.size := by omega
  have q0 : inB (b1 : Int) 160 191 = true := by unfold inB; rw [decide_eq_true_eq]; omega
  have Q0 := Lib.hid q0
  clear q0
  have q1 : inB (b2 : Int) 128 191 = false := by unfold inB; rw [decide_eq_false_iff_not]; omega
  have Q1 := Lib.hid q1
  clear q1
  go_enter Tryf.func8, Tryf.ntmps8
  go_wp2_with (first | (go_at_call 14; (with_reducible refine (in_yes (b1 : Int) 160 191 _ Q0.out).mono ?_); rintro e w' ⟨rfl, rfl⟩) | (go_at_call 14; (with_reducible refine (in_no (b2 : Int) 128 191 _ Q1.out).mono ?_); rintro e w' ⟨rfl, rfl⟩))
  go_ret2
  exact ⟨0, rfl, rfl⟩
set_option maxRecDepth 100000 in
set_option maxHeartbeats 1000000 in
theorem E0_ok (hi : i + 2 < s.size) (h0 : ∀ h : i < s.size, (s[i]'h).toNat = b0) (l0 : 224 ≤ b0) (u0 : b0 ≤ 224) (h1 : ∀ h : i + 1 < s.size, (s[i + 1]'h).toNat = b1) (l1 : 160 ≤ b1) (u1 : b1 ≤ 191) (h2 : ∀ h : i + 2 < s.size, (s[i + 2]'h).toNat = b2) (l2 : 128 ≤ b2) (u2 : b2 ≤ 191) :
    Calls Tryf.prog 8 #[.string s, .int .i64 i] w (Dc (b0 % 16 * 4096 + b1 % 64 * 64 + b2 % 64) 3 w) := by
  have hi0 : i < s.size := by omega
  have n224 : ((b0 : Int) == 224) = true := by rw [beq_iff_eq]; omega
  have n237 : ((b0 : Int) == 237) = false := by rw [beq_eq_false_iff_ne]; omega
  have x1 : i + 1 < s.size := by omega
  have x2 : i + 2 < s.size := by omega
  have q0 : inB (b1 : Int) 160 191 = true := by unfold inB; rw [decide_eq_true_eq]; omega
  have Q0 := Lib.hid q0
  clear q0
  have q1 : inB (b2 : Int) 128 191 = true := by unfold inB; rw [decide_eq_true_eq]; omega
  have Q1 := Lib.hid q1
  clear q1
  go_enter Tryf.func8, Tryf.ntmps8
  go_wp2_with (first | (go_at_call 14; (with_reducible refine (in_yes (b1 : Int) 160 191 _ Q0.out).mono ?_); rintro e w' ⟨rfl, rfl⟩) | (go_at_call 14; (with_reducible refine (in_yes (b2 : Int) 128 191 _ Q1.out).mono ?_); rintro e w' ⟨rfl, rfl⟩))
  go_quiet (fail)
  go_wp2
  go_ret2
  exact ⟨_, rfl, rfl⟩
set_option maxRecDepth 100000 in
set_option maxHeartbeats 1000000 in
theorem E1_short (hi : i < s.size) (hs : s.size < i + 3) (h0 : ∀ h : i < s.size, (s[i]'h).toNat = b0) (l0 : 225 ≤ b0) (u0 : b0 ≤ 236) :
    Calls Tryf.prog 8 #[.string s, .int .i64 i] w (Dc (65533) 1 w) := by
  have n224 : ((b0 : Int) == 224) = false := by rw [beq_eq_false_iff_ne]; omega
  have n237 : ((b0 : Int) == 237) = false := by rw [beq_eq_false_iff_ne]; omega
  have hmm := hm
  have hs2 : (s.size : Int) - (i : Int) < 3 := by omega
  go_enter Tryf.func8, Tryf.ntmps8
  go_wp2_with fail
  go_ret2
  exact ⟨0, rfl, rfl⟩
set_option maxRecDepth 100000 in
set_option maxHeartbeats 1000000 in
theorem E1_bad1 (hi : i + 2 < s.size) (h0 : ∀ h : i < s.size, (s[i]'h).toNat = b0) (l0 : 225 ≤ b0) (u0 : b0 ≤ 236) (h1 : ∀ h : i + 1 < s.size, (s[i + 1]'h).toNat = b1) (z1 : b1 < 256) (v1 : b1 < 128 ∨ 191 < b1) :
    Calls Tryf.prog 8 #[.string s, .int .i64 i] w (Dc (65533) 1 w) := by
  have hi0 : i < s.size := by omega
  have n224 : ((b0 : Int) == 224) = false := by rw [beq_eq_false_iff_ne]; omega
  have n237 : ((b0 : Int) == 237) = false := by rw [beq_eq_false_iff_ne]; omega
  have x1 : i + 1 < s.size := by omega
  have q0 : inB (b1 : Int) 128 191 = false := by unfold inB; rw [decide_eq_false_iff_not]; omega
  have Q0 := Lib.hid q0
  clear q0
  go_enter Tryf.func8, Tryf.ntmps8
  go_wp2_with (first | (go_at_call 14; (with_reducible refine (in_no (b1 : Int) 128 191 _ Q0.out).mono ?_); rintro e w' ⟨rfl, rfl⟩))
  go_ret2
  exact ⟨0, rfl, rfl⟩
set_option maxRecDepth 100000 in
set_option maxHeartbeats 1000000 in
theorem E1_bad2 (hi : i + 2 < s.size) (h0 : ∀ h : i < s.size, (s[i]'h).toNat = b0) (l0 : 225 ≤ b0) (u0 : b0 ≤ 236) (h1 : ∀ h : i + 1 < s.size, (s[i + 1]'h).toNat = b1) (z1 : b1 < 256) (h2 : ∀ h : i + 2 < s.size, (s[i + 2]'h).toNat = b2) (z2 : b2 < 256) (l1 : 128 ≤ b1) (u1 : b1 ≤ 191) (v2 : b2 < 128 ∨ 191 < b2) :
    Calls Tryf.prog 8 #[.string s, .int .i64 i] w (Dc (65533) 1 w) := by
  have hi0 : i < s.size := by omega
  have n224 : ((b0 : Int) == 224) = false := by rw [beq_eq_false_iff_ne]; omega
  have n237 : ((b0 : Int) == 237) = false := by rw [beq_eq_false_iff_ne]; omega
  have x1 : i + 1 < s.size := by omega
  have x2 : i + 2 < s.size := by omega
  have q0 : inB (b1 : Int) 128 191 = true := by unfold inB; rw [decide_eq_true_eq]; omega
  have Q0 := Lib.hid q0
  clear q0
  have q1 : inB (b2 : Int) 128 191 = false := by unfold inB; rw [decide_eq_false_iff_not]; omega
  have Q1 := Lib.hid q1
  clear q1
  go_enter Tryf.func8, Tryf.ntmps8
  go_wp2_with (first | (go_at_call 14; (with_reducible refine (in_yes (b1 : Int) 128 191 _ Q0.out).mono ?_); rintro e w' ⟨rfl, rfl⟩) | (go_at_call 14; (with_reducible refine (in_no (b2 : Int) 128 191 _ Q1.out).mono ?_); rintro e w' ⟨rfl, rfl⟩))
  go_ret2
  exact ⟨0, rfl, rfl⟩
set_option maxRecDepth 100000 in
set_option maxHeartbeats 1000000 in
theorem E1_ok (hi : i + 2 < s.size) (h0 : ∀ h : i < s.size, (s[i]'h).toNat = b0) (l0 : 225 ≤ b0) (u0 : b0 ≤ 236) (h1 : ∀ h : i + 1 < s.size, (s[i + 1]'h).toNat = b1) (l1 : 128 ≤ b1) (u1 : b1 ≤ 191) (h2 : ∀ h : i + 2 < s.size, (s[i + 2]'h).toNat = b2) (l2 : 128 ≤ b2) (u2 : b2 ≤ 191) :
    Calls Tryf.prog 8 #[.string s, .int .i64 i] w (Dc (b0 % 16 * 4096 + b1 % 64 * 64 + b2 % 64) 3 w) := by
  have hi0 : i < s.size := by omega
  have n224 : ((b0 : Int) == 224) = false := by rw [beq_eq_false_iff_ne]; omega
  have n237 : ((b0 : Int) == 237) = false := by rw [beq_eq_false_iff_ne]; omega
  have x1 : i + 1 < s.size := by omega
  have x2 : i + 2 < s.size := by omega
  have q0 : inB (b1 : Int) 128 191 = true := by unfold inB; rw [decide_eq_true_eq]; omega
  have Q0 := Lib.hid q0
  clear q0
  have q1 : inB (b2 : Int) 128 191 = true := by unfold inB; rw [decide_eq_true_eq]; omega
  have Q1 := Lib.hid q1
  clear q1
  go_enter Tryf.func8, Tryf.ntmps8
  go_wp2_with (first | (go_at_call 14; (with_reducible refine (in_yes (b1 : Int) 128 191 _ Q0.out).mono ?_); rintro e w' ⟨rfl, rfl⟩) | (go_at_call 14; (with_reducible refine (in_yes (b2 : Int) 128 191 _ Q1.out).mono ?_); rintro e w' ⟨rfl, rfl⟩))
  go_quiet (fail)
  go_wp2
  go_ret2
  exact ⟨_, rfl, rfl⟩
set_option maxRecDepth 100000 in
set_option maxHeartbeats 1000000 in
theorem ED_short (hi : i < s.size) (hs : s.size < i + 3) (h0 : ∀ h : i < s.size, (s[i]'h).toNat = b0) (l0 : 237 ≤ b0) (u0 : b0 ≤ 237) :
    Calls Tryf.prog 8 #[.string s, .int .i64 i] w (Dc (65533) 1 w) := by
  have n224 : ((b0 : Int) == 224) = false := by rw [beq_eq_false_iff_ne]; omega
  have n237 : ((b0 : Int) == 237) = true := by rw [beq_iff_eq]; omega
  have hmm := hm
  have hs2 : (s.size : Int) - (i : Int) < 3 := by omega
  go_enter Tryf.func8, Tryf.ntmps8
  go_wp2_with fail
  go_ret2
  exact ⟨0, rfl, rfl⟩
set_option maxRecDepth 100000 in
set_option maxHeartbeats 1000000 in
theorem ED_bad1 (hi : i + 2 < s.size) (h0 : ∀ h : i < s.size, (s[i]'h).toNat = b0) (l0 : 237 ≤ b0) (u0 : b0 ≤ 237) (h1 : ∀ h : i + 1 < s.size, (s[i + 1]'h).toNat = b1) (z1 : b1 < 256) (v1 : b1 < 128 ∨ 159 < b1) :
    Calls Tryf.prog 8 #[.string s, .int .i64 i] w (Dc (65533) 1 w) := by
  have hi0 : i < s.size := by omega
  have n224 : ((b0 : Int) == 224) = false := by rw [beq_eq_false_iff_ne]; omega
  have n237 : ((b0 : Int) == 237) = true := by rw [beq_iff_eq]; omega
  have x1 : i + 1 < s.size := by omega
  have q0 : inB (b1 : Int) 128 159 = false := by unfold inB; rw [decide_eq_false_iff_not]; omega
  have Q0 := Lib.hid q0
  clear q0
  go_enter Tryf.func8, Tryf.ntmps8
  go_wp2_with (first | (go_at_call 14; (with_reducible refine (in_no (b1 : Int) 128 159 _ Q0.out).mono ?_); rintro e w' ⟨rfl, rfl⟩))
  go_ret2
  exact ⟨0, rfl, rfl⟩
set_option maxRecDepth 100000 in
set_option maxHeartbeats 1000000 in
theorem ED_bad2 (hi : i + 2 < s.size) (h0 : ∀ h : i < s.size, (s[i]'h).toNat = b0) (l0 : 237 ≤ b0) (u0 : b0 ≤ 237) (h1 : ∀ h : i + 1 < s.size, (s[i + 1]'h).toNat = b1) (z1 : b1 < 256) (h2 : ∀ h : i + 2 < s.size, (s[i + 2]'h).toNat = b2) (z2 : b2 < 256) (l1 : 128 ≤ b1) (u1 : b1 ≤ 159) (v2 : b2 < 128 ∨ 191 < b2) :
    Calls Tryf.prog 8 #[.string s, .int .i64 i] w (Dc (65533) 1 w) := by
  have hi0 : i < s.size := by omega
  have n224 : ((b0 : Int) == 224) = false := by rw [beq_eq_false_iff_ne]; omega
  have n237 : ((b0 : Int) == 237) = true := by rw [beq_iff_eq]; omega
  have x1 : i + 1 < s.size := by omega
  have x2 : i + 2 < s.size := by omega
  have q0 : inB (b1 : Int) 128 159 = true := by unfold inB; rw [decide_eq_true_eq]; omega
  have Q0 := Lib.hid q0
  clear q0
  have q1 : inB (b2 : Int) 128 191 = false := by unfold inB; rw [decide_eq_false_iff_not]; omega
  have Q1 := Lib.hid q1
  clear q1
  go_enter Tryf.func8, Tryf.ntmps8
  go_wp2_with (first | (go_at_call 14; (with_reducible refine (in_yes (b1 : Int) 128 159 _ Q0.out).mono ?_); rintro e w' ⟨rfl, rfl⟩) | (go_at_call 14; (with_reducible refine (in_no (b2 : Int) 128 191 _ Q1.out).mono ?_); rintro e w' ⟨rfl, rfl⟩))
  go_ret2
  exact ⟨0, rfl, rfl⟩
set_option maxRecDepth 100000 in
set_option maxHeartbeats 1000000 in
theorem ED_ok (hi : i + 2 < s.size) (h0 : ∀ h : i < s.size, (s[i]'h).toNat = b0) (l0 : 237 ≤ b0) (u0 : b0 ≤ 237) (h1 : ∀ h : i + 1 < s.size, (s[i + 1]'h).toNat = b1) (l1 : 128 ≤ b1) (u1 : b1 ≤ 159) (h2 : ∀ h : i + 2 < s.size, (s[i + 2]'h).toNat = b2) (l2 : 128 ≤ b2) (u2 : b2 ≤ 191) :
    Calls Tryf.prog 8 #[.string s, .int .i64 i] w (Dc (b0 % 16 * 4096 + b1 % 64 * 64 + b2 % 64) 3 w) := by
  have hi0 : i < s.size := by omega
  have n224 : ((b0 : Int) == 224) = false := by rw [beq_eq_false_iff_ne]; omega
  have n237 : ((b0 : Int) == 237) = true := by rw [beq_iff_eq]; omega
  have x1 : i + 1 < s.size := by omega
  have x2 : i + 2 < s.size := by omega
  have q0 : inB (b1 : Int) 128 159 = true := by unfold inB; rw [decide_eq_true_eq]; omega
  have Q0 := Lib.hid q0
  clear q0
  have q1 : inB (b2 : Int) 128 191 = true := by unfold inB; rw [decide_eq_true_eq]; omega
  have Q1 := Lib.hid q1
  clear q1
  go_enter Tryf.func8, Tryf.ntmps8
  go_wp2_with (first | (go_at_call 14; (with_reducible refine (in_yes (b1 : Int) 128 159 _ Q0.out).mono ?_); rintro e w' ⟨rfl, rfl⟩) | (go_at_call 14; (with_reducible refine (in_yes (b2 : Int) 128 191 _ Q1.out).mono ?_); rintro e w' ⟨rfl, rfl⟩))
  go_quiet (fail)
  go_wp2
  go_ret2
  exact ⟨_, rfl, rfl⟩
set_option maxRecDepth 100000 in
set_option maxHeartbeats 1000000 in
theorem EE_short (hi : i < s.size) (hs : s.size < i + 3) (h0 : ∀ h : i < s.size, (s[i]'h).toNat = b0) (l0 : 238 ≤ b0) (u0 : b0 ≤ 239) :
    Calls Tryf.prog 8 #[.string s, .int .i64 i] w (Dc (65533) 1 w) := by
  have n224 : ((b0 : Int) == 224) = false := by rw [beq_eq_false_iff_ne]; omega
  have n237 : ((b0 : Int) == 237) = false := by rw [beq_eq_false_iff_ne]; omega
  have hmm := hm
  have hs2 : (s.size : Int) - (i : Int) < 3 := by omega
  go_enter Tryf.func8, Tryf.ntmps8
  go_wp2_with fail
  go_ret2
  exact ⟨0, rfl, rfl⟩
set_option maxRecDepth 100000 in
set_option maxHeartbeats 1000000 in
theorem EE_bad1 (hi : i + 2 < s.size) (h0 : ∀ h : i < s.size, (s[i]'h).toNat = b0) (l0 : 238 ≤ b0) (u0 : b0 ≤ 239) (h1 : ∀ h : i + 1 < s.size, (s[i + 1]'h).toNat = b1) (z1 : b1 < 256) (v1 : b1 < 128 ∨ 191 < b1) :
    Calls Tryf.prog 8 #[.string s, .int .i64 i] w (Dc (65533) 1 w) := by
  have hi0 : i < s.size := by omega
  have n224 : ((b0 : Int) == 224) = false := by rw [beq_eq_false_iff_ne]; omega
  have n237 : ((b0 : Int) == 237) = false := by rw [beq_eq_false_iff_ne]; omega
  have x1 : i + 1 < s.size := by omega
  have q0 : inB (b1 : Int) 128 191 = false := by unfold inB; rw [decide_eq_false_iff_not]; omega
  have Q0 := Lib.hid q0
  clear q0
  go_enter Tryf.func8, Tryf.ntmps8
  go_wp2_with (first | (go_at_call 14; (with_reducible refine (in_no (b1 : Int) 128 191 _ Q0.out).mono ?_); rintro e w' ⟨rfl, rfl⟩))
  go_ret2
  exact ⟨0, rfl, rfl⟩
set_option maxRecDepth 100000 in
set_option maxHeartbeats 1000000 in
theorem EE_bad2 (hi : i + 2 < s.size) (h0 : ∀ h : i < s.size, (s[i]'h).toNat = b0) (l0 : 238 ≤ b0) (u0 : b0 ≤ 239) (h1 : ∀ h : i + 1 < s.size, (s[i + 1]'h).toNat = b1) (z1 : b1 < 256) (h2 : ∀ h : i + 2 < s.size, (s[i + 2]'h).toNat = b2) (z2 : b2 < 256) (l1 : 128 ≤ b1) (u1 : b1 ≤ 191) (v2 : b2 < 128 ∨ 191 < b2) :
    Calls Tryf.prog 8 #[.string s, .int .i64 i] w (Dc (65533) 1 w) := by
  have hi0 : i < s.size := by omega
  have n224 : ((b0 : Int) == 224) = false := by rw [beq_eq_false_iff_ne]; omega
  have n237 : ((b0 : Int) == 237) = false := by rw [beq_eq_false_iff_ne]; omega
  have x1 : i + 1 < s.size := by omega
  have x2 : i + 2 < s.size := by omega
  have q0 : inB (b1 : Int) 128 191 = true := by unfold inB; rw [decide_eq_true_eq]; omega
  have Q0 := Lib.hid q0
  clear q0
  have q1 : inB (b2 : Int) 128 191 = false := by unfold inB; rw [decide_eq_false_iff_not]; omega
  have Q1 := Lib.hid q1
  clear q1
  go_enter Tryf.func8, Tryf.ntmps8
  go_wp2_with (first | (go_at_call 14; (with_reducible refine (in_yes (b1 : Int) 128 191 _ Q0.out).mono ?_); rintro e w' ⟨rfl, rfl⟩) | (go_at_call 14; (with_reducible refine (in_no (b2 : Int) 128 191 _ Q1.out).mono ?_); rintro e w' ⟨rfl, rfl⟩))
  go_ret2
  exact ⟨0, rfl, rfl⟩
set_option maxRecDepth 100000 in
set_option maxHeartbeats 1000000 in
theorem EE_ok (hi : i + 2 < s.size) (h0 : ∀ h : i < s.size, (s[i]'h).toNat = b0) (l0 : 238 ≤ b0) (u0 : b0 ≤ 239) (h1 : ∀ h : i + 1 < s.size, (s[i + 1]'h).toNat = b1) (l1 : 128 ≤ b1) (u1 : b1 ≤ 191) (h2 : ∀ h : i + 2 < s.size, (s[i + 2]'h).toNat = b2) (l2 : 128 ≤ b2) (u2 : b2 ≤ 191) :
    Calls Tryf.prog 8 #[.string s, .int .i64 i] w (Dc (b0 % 16 * 4096 + b1 % 64 * 64 + b2 % 64) 3 w) := by
  have hi0 : i < s.size := by omega
  have n224 : ((b0 : Int) == 224) = false := by rw [beq_eq_false_iff_ne]; omega
  have n237 : ((b0 : Int) == 237) = false := by rw [beq_eq_false_iff_ne]; omega
  have x1 : i + 1 < s.size := by omega
  have x2 : i + 2 < s.size := by omega
  have q0 : inB (b1 : Int) 128 191 = true := by unfold inB; rw [decide_eq_true_eq]; omega
  have Q0 := Lib.hid q0
  clear q0
  have q1 : inB (b2 : Int) 128 191 = true := by unfold inB; rw [decide_eq_true_eq]; omega
  have Q1 := Lib.hid q1
  clear q1
  go_enter Tryf.func8, Tryf.ntmps8
  go_wp2_with (first | (go_at_call 14; (with_reducible refine (in_yes (b1 : Int) 128 191 _ Q0.out).mono ?_); rintro e w' ⟨rfl, rfl⟩) | (go_at_call 14; (with_reducible refine (in_yes (b2 : Int) 128 191 _ Q1.out).mono ?_); rintro e w' ⟨rfl, rfl⟩))
  go_quiet (fail)
  go_wp2
  go_ret2
  exact ⟨_, rfl, rfl⟩
set_option maxRecDepth 100000 in
set_option maxHeartbeats 1000000 in
theorem F0_short (hi : i < s.size) (hs : s.size < i + 4) (h0 : ∀ h : i < s.size, (s[i]'h).toNat = b0) (l0 : 240 ≤ b0) (u0 : b0 ≤ 240) :
    Calls Tryf.prog 8 #[.string s, .int .i64 i] w (Dc (65533) 1 w) := by
  have n240 : ((b0 : Int) == 240) = true := by rw [beq_iff_eq]; omega
  have n244 : ((b0 : Int) == 244) = false := by rw [beq_eq_false_iff_ne]; omega
  have hmm := hm
  have hs2 : (s.size : Int) - (i : Int) < 4 := by omega
  go_enter Tryf.func8, Tryf.ntmps8
  go_wp2_with fail
  go_ret2
  exact ⟨0, rfl, rfl⟩
set_option maxRecDepth 100000 in
set_option maxHeartbeats 1000000 in
theorem F0_bad1 (hi : i + 3 < s.size) (h0 : ∀ h : i < s.size, (s[i]'h).toNat = b0) (l0 : 240 ≤ b0) (u0 : b0 ≤ 240) (h1 : ∀ h : i + 1 < s.size, (s[i + 1]'h).toNat = b1) (z1 : b1 < 256) (v1 : b1 < 144 ∨ 191 < b1) :
    Calls Tryf.prog 8 #[.string s, .int .i64 i] w (Dc (65533) 1 w) := by
  have hi0 : i < s.size := by omega
  have n240 : ((b0 : Int) == 240) = true := by rw [beq_iff_eq]; omega
  have n244 : ((b0 : Int) == 244) = false := by rw [beq_eq_false_iff_ne]; omega
  have x1 : i + 1 < s.size := by omega
  have q0 : inB (b1 : Int) 144 191 = false := by unfold inB; rw [decide_eq_false_iff_not]; omega
  have Q0 := Lib.hid q0
  clear q0
  go_enter Tryf.func8, Tryf.ntmps8
  go_wp2_with (first | (go_at_call 14; (with_reducible refine (in_no (b1 : Int) 144 191 _ Q0.out).mono ?_); rintro e w' ⟨rfl, rfl⟩))
  go_ret2
  exact ⟨0, rfl, rfl⟩
set_option maxRecDepth 100000 in
set_option maxHeartbeats 1000000 in
theorem F0_bad2 (hi : i + 3 < s.size) (h0 : ∀ h : i < s.size, (s[i]'h).toNat = b0) (l0 : 240 ≤ b0) (u0 : b0 ≤ 240) (h1 : ∀ h : i + 1 < s.size, (s[i + 1]'h).toNat = b1) (z1 : b1 < 256) (h2 : ∀ h : i + 2 < s.size, (s[i + 2]'h).toNat = b2) (z2 : b2 < 256) (l1 : 144 ≤ b1) (u1 : b1 ≤ 191) (v2 : b2 < 128 ∨ 191 < b2) :
    Calls Tryf.prog 8 #[.string s, .int .i64 i] w (Dc (65533) 1 w) := by
  have hi0 : i < s.size := by omega
  have n240 : ((b0 : Int) == 240) = true := by rw [beq_iff_eq]; omega
  have n244 : ((b0 : Int) == 244) = false := by rw [beq_eq_false_iff_ne]; omega
  have x1 : i + 1 < s.size := by omega
  have x2 : i + 2 < s.size := by omega
  have q0 : inB (b1 : Int) 144 191 = true := by unfold inB; rw [decide_eq_true_eq]; omega
  have Q0 := Lib.hid q0
  clear q0
  have q1 : inB (b2 : Int) 128 191 = false := by unfold inB; rw [decide_eq_false_iff_not]; omega
  have Q1 := Lib.hid q1
  clear q1
  go_enter Tryf.func8, Tryf.ntmps8
  go_wp2_with (first | (go_at_call 14; (with_reducible refine (in_yes (b1 : Int) 144 191 _ Q0.out).mono ?_); rintro e w' ⟨rfl, rfl⟩) | (go_at_call 14; (with_reducible refine (in_no (b2 : Int) 128 191 _ Q1.out).mono ?_); rintro e w' ⟨rfl, rfl⟩))
  go_ret2
  exact ⟨0, rfl, rfl⟩
set_option maxRecDepth 100000 in
set_option maxHeartbeats 1000000 in
theorem F0_bad3 (hi : i + 3 < s.size) (h0 : ∀ h : i < s.size, (s[i]'h).toNat = b0) (l0 : 240 ≤ b0) (u0 : b0 ≤ 240) (h1 : ∀ h : i + 1 < s.size, (s[i + 1]'h).toNat = b1) (z1 : b1 < 256) (h2 : ∀ h : i + 2 < s.size, (s[i + 2]'h).toNat = b2) (z2 : b2 < 256) (h3 : ∀ h : i + 3 < s.size, (s[i + 3]'h).toNat = b3) (z3 : b3 < 256) (l1 : 144 ≤ b1) (u1 : b1 ≤ 191) (l2 : 128 ≤ b2) (u2 : b2 ≤ 191) (v3 : b3 < 128 ∨ 191 < b3) :
    Calls Tryf.prog 8 #[.string s, .int .i64 i] w (Dc (65533) 1 w) := by
  have hi0 : i < s.size := by omega
  have n240 : ((b0 : Int) == 240) = true := by rw [beq_iff_eq]; omega
  have n244 : ((b0 : Int) == 244) = false := by rw [beq_eq_false_iff_ne]; omega
  have x1 : i + 1 < s.size := by omega
  have x2 : i + 2 < s.size := by omega
  have x3 : i + 3 < s.size := by omega
  have q0 : inB (b1 : Int) 144 191 = true := by unfold inB; rw [decide_eq_true_eq]; omega
  have Q0 := Lib.hid q0
  clear q0
  have q1 : inB (b2 : Int) 128 191 = true := by unfold inB; rw [decide_eq_true_eq]; omega
  have Q1 := Lib.hid q1
  clear q1
  have q2 : inB (b3 : Int) 128 191 = false := by unfold inB; rw [decide_eq_false_iff_not]; omega
  have Q2 := Lib.hid q2
  clear q2
  go_enter Tryf.func8, Tryf.ntmps8
  go_wp2_with (first | (go_at_call 14; (with_reducible refine (in_yes (b1 : Int) 144 191 _ Q0.out).mono ?_); rintro e w' ⟨rfl, rfl⟩) | (go_at_call 14; (with_reducible refine (in_yes (b2 : Int) 128 191 _ Q1.out).mono ?_); rintro e w' ⟨rfl, rfl⟩) | (go_at_call 14; (with_reducible refine (in_no (b3 : Int) 128 191 _ Q2.out).mono ?_); rintro e w' ⟨rfl, rfl⟩))
  go_ret2
  exact ⟨0, rfl, rfl⟩
set_option maxRecDepth 100000 in
set_option maxHeartbeats 1000000 in
theorem F0_ok (hi : i + 3 < s.size) (h0 : ∀ h : i < s.size, (s[i]'h).toNat = b0) (l0 : 240 ≤ b0) (u0 : b0 ≤ 240) (h1 : ∀ h : i + 1 < s.size, (s[i + 1]'h).toNat = b1) (l1 : 144 ≤ b1) (u1 : b1 ≤ 191) (h2 : ∀ h : i + 2 < s.size, (s[i + 2]'h).toNat = b2) (l2 : 128 ≤ b2) (u2 : b2 ≤ 191) (h3 : ∀ h : i + 3 < s.size, (s[i + 3]'h).toNat = b3) (l3 : 128 ≤ b3) (u3 : b3 ≤ 191) :
    Calls Tryf.prog 8 #[.string s, .int .i64 i] w (Dc (b0 % 8 * 262144 + b1 % 64 * 4096 + b2 % 64 * 64 + b3 % 64) 4 w) := by
  have hi0 : i < s.size := by omega
  have n240 : ((b0 : Int) == 240) = true := by rw [beq_iff_eq]; omega
  have n244 : ((b0 : Int) == 244) = false := by rw [beq_eq_false_iff_ne]; omega
  have x1 : i + 1 < s.size := by omega
  have x2 : i + 2 < s.size := by omega
  have x3 : i + 3 < s.size := by omega
  have q0 : inB (b1 : Int) 144 191 = true := by unfold inB; rw [decide_eq_true_eq]; omega
  have Q0 := Lib.hid q0
  clear q0
  have q1 : inB (b2 : Int) 128 191 = true := by unfold inB; rw [decide_eq_true_eq]; omega
  have Q1 := Lib.hid q1
  clear q1
  have q2 : inB (b3 : Int) 128 191 = true := by unfold inB; rw [decide_eq_true_eq]; omega
  have Q2 := Lib.hid q2
  clear q2
  go_enter Tryf.func8, Tryf.ntmps8
  go_wp2_with (first | (go_at_call 14; (with_reducible refine (in_yes (b1 : Int) 144 191 _ Q0.out).mono ?_); rintro e w' ⟨rfl, rfl⟩) | (go_at_call 14; (with_reducible refine (in_yes (b2 : Int) 128 191 _ Q1.out).mono ?_); rintro e w' ⟨rfl, rfl⟩) | (go_at_call 14; (with_reducible refine (in_yes (b3 : Int) 128 191 _ Q2.out).mono ?_); rintro e w' ⟨rfl, rfl⟩))
  go_quiet (fail)
  go_wp2
  go_ret2
  exact ⟨_, rfl, rfl⟩
set_option maxRecDepth 100000 in
set_option maxHeartbeats 1000000 in
theorem F1_short (hi : i < s.size) (hs : s.size < i + 4) (h0 : ∀ h : i < s.size, (s[i]'h).toNat = b0) (l0 : 241 ≤ b0) (u0 : b0 ≤ 243) :
    Calls Tryf.prog 8 #[.string s, .int .i64 i] w (Dc (65533) 1 w) := by
  have n240 : ((b0 : Int) == 240) = false := by rw [beq_eq_false_iff_ne]; omega
  have n244 : ((b0 : Int) == 244) = false := by rw [beq_eq_false_iff_ne]; omega
  have hmm := hm
  have hs2 : (s.size : Int) - (i : Int) < 4 := by omega
  go_enter Tryf.func8, Tryf.ntmps8
  go_wp2_with fail
  go_ret2
  exact ⟨0, rfl, rfl⟩
set_option maxRecDepth 100000 in
set_option maxHeartbeats 1000000 in
theorem F1_bad1 (hi : i + 3 < s.size) (h0 : ∀ h : i < s.size, (s[i]'h).toNat = b0) (l0 : 241 ≤ b0) (u0 : b0 ≤ 243) (h1 : ∀ h : i + 1 < s.size, (s[i + 1]'h).toNat = b1) (z1 : b1 < 256) (v1 : b1 < 128 ∨ 191 < b1) :
    Calls Tryf.prog 8 #[.string s, .int .i64 i] w (Dc (65533) 1 w) := by
  have hi0 : i < s.size := by omega
  have n240 : ((b0 : Int) == 240) = false := by rw [beq_eq_false_iff_ne]; omega
  have n244 : ((b0 : Int) == 244) = false := by rw [beq_eq_false_iff_ne]; omega
  have x1 : i + 1 < s.size := by omega
  have q0 : inB (b1 : Int) 128 191 = false := by unfold inB; rw [decide_eq_false_iff_not]; omega
  have Q0 := Lib.hid q0
  clear q0
  go_enter Tryf.func8, Tryf.ntmps8
  go_wp2_with (first | (go_at_call 14; (with_reducible refine (in_no (b1 : Int) 128 191 _ Q0.out).mono ?_); rintro e w' ⟨rfl, rfl⟩))
  go_ret2
  exact ⟨0, rfl, rfl⟩
set_option maxRecDepth 100000 in
set_option maxHeartbeats 1000000 in
theorem F1_bad2 (hi : i + 3 < s.size) (h0 : ∀ h : i < s.size, (s[i]'h).toNat = b0) (l0 : 241 ≤ b0) (u0 : b0 ≤ 243) (h1 : ∀ h : i + 1 < s.size, (s[i + 1]'h).toNat = b1) (z1 : b1 < 256) (h2 : ∀ h : i + 2 < s.size, (s[i + 2]'h).toNat = b2) (z2 : b2 < 256) (l1 : 128 ≤ b1) (u1 : b1 ≤ 191) (v2 : b2 < 128 ∨ 191 < b2) :
    Calls Tryf.prog 8 #[.string s, .int .i64 i] w (Dc (65533) 1 w) := by
  have hi0 : i < s.size := by omega
  have n240 : ((b0 : Int) == 240) = false := by rw [beq_eq_false_iff_ne]; omega
  have n244 : ((b0 : Int) == 244) = false := by rw [beq_eq_false_iff_ne]; omega
  have x1 : i + 1 < s.size := by omega
  have x2 : i + 2 < s.size := by omega
  have q0 : inB (b1 : Int) 128 191 = true := by unfold inB; rw [decide_eq_true_eq]; omega
  have Q0 := Lib.hid q0
  clear q0
  have q1 : inB (b2 : Int) 128 191 = false := by unfold inB; rw [decide_eq_false_iff_not]; omega
  have Q1 := Lib.hid q1
  clear q1
  go_enter Tryf.func8, Tryf.ntmps8
  go_wp2_with (first | (go_at_call 14; (with_reducible refine (in_yes (b1 : Int) 128 191 _ Q0.out).mono ?_); rintro e w' ⟨rfl, rfl⟩) | (go_at_call 14; (with_reducible refine (in_no (b2 : Int) 128 191 _ Q1.out).mono ?_); rintro e w' ⟨rfl, rfl⟩))
  go_ret2
  exact ⟨0, rfl, rfl⟩
set_option maxRecDepth 100000 in
set_option maxHeartbeats 1000000 in
theorem F1_bad3 (hi : i + 3 < s.size) (h0 : ∀ h : i < s.size, (s[i]'h).toNat = b0) (l0 : 241 ≤ b0) (u0 : b0 ≤ 243) (h1 : ∀ h : i + 1 < s.size, (s[i + 1]'h).toNat = b1) (z1 : b1 < 256) (h2 : ∀ h : i + 2 < s.size, (s[i + 2]'h).toNat = b2) (z2 : b2 < 256) (h3 : ∀ h : i + 3 < s.size, (s[i + 3]'h).toNat = b3) (z3 : b3 < 256) (l1 : 128 ≤ b1) (u1 : b1 ≤ 191) (l2 : 128 ≤ b2) (u2 : b2 ≤ 191) (v3 : b3 < 128 ∨ 191 < b3) :
    Calls Tryf.prog 8 #[.string s, .int .i64 i] w (Dc (65533) 1 w) := by
  have hi0 : i < s.size := by omega
  have n240 : ((b0 : Int) == 240) = false := by rw [beq_eq_false_iff_ne]; omega
  have n244 : ((b0 : Int) == 244) = false := by rw [beq_eq_false_iff_ne]; omega
  have x1 : i + 1 < s.size := by omega
  have x2 : i + 2 < s.size := by omega
  have x3 : i + 3 < s.size := by omega
  have q0 : inB (b1 : Int) 128 191 = true := by unfold inB; rw [decide_eq_true_eq]; omega
  have Q0 := Lib.hid q0
  clear q0
  have q1 : inB (b2 : Int) 128 191 = true := by unfold inB; rw [decide_eq_true_eq]; omega
  have Q1 := Lib.hid q1
  clear q1
  have q2 : inB (b3 : Int) 128 191 = false := by unfold inB; rw [decide_eq_false_iff_not]; omega
  have Q2 := Lib.hid q2
  clear q2
  go_enter Tryf.func8, Tryf.ntmps8
  go_wp2_with (first | (go_at_call 14; (with_reducible refine (in_yes (b1 : Int) 128 191 _ Q0.out).mono ?_); rintro e w' ⟨rfl, rfl⟩) | (go_at_call 14; (with_reducible refine (in_yes (b2 : Int) 128 191 _ Q1.out).mono ?_); rintro e w' ⟨rfl, rfl⟩) | (go_at_call 14; (with_reducible refine (in_no (b3 : Int) 128 191 _ Q2.out).mono ?_); rintro e w' ⟨rfl, rfl⟩))
  go_ret2
  exact ⟨0, rfl, rfl⟩
set_option maxRecDepth 100000 in
set_option maxHeartbeats 1000000 in
theorem F1_ok (hi : i + 3 < s.size) (h0 : ∀ h : i < s.size, (s[i]'h).toNat = b0) (l0 : 241 ≤ b0) (u0 : b0 ≤ 243) (h1 : ∀ h : i + 1 < s.size, (s[i + 1]'h).toNat = b1) (l1 : 128 ≤ b1) (u1 : b1 ≤ 191) (h2 : ∀ h : i + 2 < s.size, (s[i + 2]'h).toNat = b2) (l2 : 128 ≤ b2) (u2 : b2 ≤ 191) (h3 : ∀ h : i + 3 < s.size, (s[i + 3]'h).toNat = b3) (l3 : 128 ≤ b3) (u3 : b3 ≤ 191) :
    Calls Tryf.prog 8 #[.string s, .int .i64 i] w (Dc (b0 % 8 * 262144 + b1 % 64 * 4096 + b2 % 64 * 64 + b3 % 64) 4 w) := by
  have hi0 : i < s.size := by omega
  have n240 : ((b0 : Int) == 240) = false := by rw [beq_eq_false_iff_ne]; omega
  have n244 : ((b0 : Int) == 244) = false := by rw [beq_eq_false_iff_ne]; omega
  have x1 : i + 1 < s.size := by omega
  have x2 : i + 2 < s.size := by omega
  have x3 : i + 3 < s.size := by omega
  have q0 : inB (b1 : Int) 128 191 = true := by unfold inB; rw [decide_eq_true_eq]; omega
  have Q0 := Lib.hid q0
  clear q0
  have q1 : inB (b2 : Int) 128 191 = true := by unfold inB; rw [decide_eq_true_eq]; omega
  have Q1 := Lib.hid q1
  clear q1
  have q2 : inB (b3 : Int) 128 191 = true := by unfold inB; rw [decide_eq_true_eq]; omega
  have Q2 := Lib.hid q2
  clear q2
  go_enter Tryf.func8, Tryf.ntmps8
  go_wp2_with (first | (go_at_call 14; (with_reducible refine (in_yes (b1 : Int) 128 191 _ Q0.out).mono ?_); rintro e w' ⟨rfl, rfl⟩) | (go_at_call 14; (with_reducible refine (in_yes (b2 : Int) 128 191 _ Q1.out).mono ?_); rintro e w' ⟨rfl, rfl⟩) | (go_at_call 14; (with_reducible refine (in_yes (b3 : Int) 128 191 _ Q2.out).mono ?_); rintro e w' ⟨rfl, rfl⟩))
  go_quiet (fail)
  go_wp2
  go_ret2
  exact ⟨_, rfl, rfl⟩
set_option maxRecDepth 100000 in
set_option maxHeartbeats 1000000 in
theorem F4_short (hi : i < s.size) (hs : s.size < i + 4) (h0 : ∀ h : i < s.size, (s[i]'h).toNat = b0) (l0 : 244 ≤ b0) (u0 : b0 ≤ 244) :
    Calls Tryf.prog 8 #[.string s, .int .i64 i] w (Dc (65533) 1 w) := by
  have n240 : ((b0 : Int) == 240) = false := by rw [beq_eq_false_iff_ne]; omega
  have n244 : ((b0 : Int) == 244) = true := by rw [beq_iff_eq]; omega
  have hmm := hm
  have hs2 : (s.size : Int) - (i : Int) < 4 := by omega
  go_enter Tryf.func8, Tryf.ntmps8
  go_wp2_with fail
  go_ret2
  exact ⟨0, rfl, rfl⟩
set_option maxRecDepth 100000 in
set_option maxHeartbeats 1000000 in
theorem F4_bad1 (hi : i + 3 < s.size) (h0 : ∀ h : i < s.size, (s[i]'h).toNat = b0) (l0 : 244 ≤ b0) (u0 : b0 ≤ 244) (h1 : ∀ h : i + 1 < s.size, (s[i + 1]'h).toNat = b1) (z1 : b1 < 256) (v1 : b1 < 128 ∨ 143 < b1) :
    Calls Tryf.prog 8 #[.string s, .int .i64 i] w (Dc (65533) 1 w) := by
  have hi0 : i < s.size := by omega
  have n240 : ((b0 : Int) == 240) = false := by rw [beq_eq_false_iff_ne]; omega
  have n244 : ((b0 : Int) == 244) = true := by rw [beq_iff_eq]; omega
  have x1 : i + 1 < s.size := by omega
  have q0 : inB (b1 : Int) 128 143 = false := by unfold inB; rw [decide_eq_false_iff_not]; omega
  have Q0 := Lib.hid q0
  clear q0
  go_enter Tryf.func8, Tryf.ntmps8
  go_wp2_with (first | (go_at_call 14; (with_reducible refine (in_no (b1 : Int) 128 143 _ Q0.out).mono ?_); rintro e w' ⟨rfl, rfl⟩))
  go_ret2
  exact ⟨0, rfl, rfl⟩
set_option maxRecDepth 100000 in
set_option maxHeartbeats 1000000 in
theorem F4_bad2 (hi : i + 3 < s.size) (h0 : ∀ h : i < s.size, (s[i]'h).toNat = b0) (l0 : 244 ≤ b0) (u0 : b0 ≤ 244) (h1 : ∀ h : i + 1 < s.size, (s[i + 1]'h).toNat = b1) (z1 : b1 < 256) (h2 : ∀ h : i + 2 < s.size, (s[i + 2]'h).toNat = b2) (z2 : b2 < 256) (l1 : 128 ≤ b1) (u1 : b1 ≤ 143) (v2 : b2 < 128 ∨ 191 < b2) :
    Calls Tryf.prog 8 #[.string s, .int .i64 i] w (Dc (65533) 1 w) := by
  have hi0 : i < s.size := by omega
  have n240 : ((b0 : Int) == 240) = false := by rw [beq_eq_false_iff_ne]; omega
  have n244 : ((b0 : Int) == 244) = true := by rw [beq_iff_eq]; omega
  have x1 : i + 1 < s.size := by omega
  have x2 : i + 2 < s.size := by omega
  have q0 : inB (b1 : Int) 128 143 = true := by unfold inB; rw [decide_eq_true_eq]; omega
  have Q0 := Lib.hid q0
  clear q0
  have q1 : inB (b2 : Int) 128 191 = false := by unfold inB; rw [decide_eq_false_iff_not]; omega
  have Q1 := Lib.hid q1
  clear q1
  go_enter Tryf.func8, Tryf.ntmps8
  go_wp2_with (first | (go_at_call 14; (with_reducible refine (in_yes (b1 : Int) 128 143 _ Q0.out).mono ?_); rintro e w' ⟨rfl, rfl⟩) | (go_at_call 14; (with_reducible refine (in_no (b2 : Int) 128 191 _ Q1.out).mono ?_); rintro e w' ⟨rfl, rfl⟩))
  go_ret2
  exact ⟨0, rfl, rfl⟩
set_option maxRecDepth 100000 in
set_option maxHeartbeats 1000000 in
theorem F4_bad3 (hi : i + 3 < s.size) (h0 : ∀ h : i < s.size, (s[i]'h).toNat = b0) (l0 : 244 ≤ b0) (u0 : b0 ≤ 244) (h1 : ∀ h : i + 1 < s.size, (s[i + 1]'h).toNat = b1) (z1 : b1 < 256) (h2 : ∀ h : i + 2 < s.size, (s[i + 2]'h).toNat = b2) (z2 : b2 < 256) (h3 : ∀ h : i + 3 < s.size, (s[i + 3]'h).toNat = b3) (z3 : b3 < 256) (l1 : 128 ≤ b1) (u1 : b1 ≤ 143) (l2 : 128 ≤ b2) (u2 : b2 ≤ 191) (v3 : b3 < 128 ∨ 191 < b3) :
    Calls Tryf.prog 8 #[.string s, .int .i64 i] w (Dc (65533) 1 w) := by
  have hi0 : i < s.size := by omega
  have n240 : ((b0 : Int) == 240) = false := by rw [beq_eq_false_iff_ne]; omega
  have n244 : ((b0 : Int) == 244) = true := by rw [beq_iff_eq]; omega
  have x1 : i + 1 < s.size := by omega
  have x2 : i + 2 < s.size := by omega
  have x3 : i + 3 < s.size := by omega
  have q0 : inB (b1 : Int) 128 143 = true := by unfold inB; rw [decide_eq_true_eq]; omega
  have Q0 := Lib.hid q0
  clear q0
  have q1 : inB (b2 : Int) 128 191 = true := by unfold inB; rw [decide_eq_true_eq]; omega
  have Q1 := Lib.hid q1
  clear q1
  have q2 : inB (b3 : Int) 128 191 = false := by unfold inB; rw [decide_eq_false_iff_not]; omega
  have Q2 := Lib.hid q2
  clear q2
  go_enter Tryf.func8, Tryf.ntmps8
  go_wp2_with (first | (go_at_call 14; (with_reducible refine (in_yes (b1 : Int) 128 143 _ Q0.out).mono ?_); rintro e w' ⟨rfl, rfl⟩) | (go_at_call 14; (with_reducible refine (in_yes (b2 : Int) 128 191 _ Q1.out).mono ?_); rintro e w' ⟨rfl, rfl⟩) | (go_at_call 14; (with_reducible refine (in_no (b3 : Int) 128 191 _ Q2.out).mono ?_); rintro e w' ⟨rfl, rfl⟩))
  go_ret2
  exact ⟨0, rfl, rfl⟩
set_option maxRecDepth 100000 in
set_option maxHeartbeats 1000000 in
theorem F4_ok (hi : i + 3 < s.size) (h0 : ∀ h : i < s.size, (s[i]'h).toNat = b0) (l0 : 244 ≤ b0) (u0 : b0 ≤ 244) (h1 : ∀ h : i + 1 < s.size, (s[i + 1]'h).toNat = b1) (l1 : 128 ≤ b1) (u1 : b1 ≤ 143) (h2 : ∀ h : i + 2 < s.size, (s[i + 2]'h).toNat = b2) (l2 : 128 ≤ b2) (u2 : b2 ≤ 191) (h3 : ∀ h : i + 3 < s.size, (s[i + 3]'h).toNat = b3) (l3 : 128 ≤ b3) (u3 : b3 ≤ 191) :
    Calls Tryf.prog 8 #[.string s, .int .i64 i] w (Dc (b0 % 8 * 262144 + b1 % 64 * 4096 + b2 % 64 * 64 + b3 % 64) 4 w) := by
  have hi0 : i < s.size := by omega
  have n240 : ((b0 : Int) == 240) = false := by rw [beq_eq_false_iff_ne]; omega
  have n244 : ((b0 : Int) == 244) = true := by rw [beq_iff_eq]; omega
  have x1 : i + 1 < s.size := by omega
  have x2 : i + 2 < s.size := by omega
  have x3 : i + 3 < s.size := by omega
  have q0 : inB (b1 : Int) 128 143 = true := by unfold inB; rw [decide_eq_true_eq]; omega
  have Q0 := Lib.hid q0
  clear q0
  have q1 : inB (b2 : Int) 128 191 = true := by unfold inB; rw [decide_eq_true_eq]; omega
  have Q1 := Lib.hid q1
  clear q1
  have q2 : inB (b3 : Int) 128 191 = true := by unfold inB; rw [decide_eq_true_eq]; omega
  have Q2 := Lib.hid q2
  clear q2
  go_enter Tryf.func8, Tryf.ntmps8
  go_wp2_with (first | (go_at_call 14; (with_reducible refine (in_yes (b1 : Int) 128 143 _ Q0.out).mono ?_); rintro e w' ⟨rfl, rfl⟩) | (go_at_call 14; (with_reducible refine (in_yes (b2 : Int) 128 191 _ Q1.out).mono ?_); rintro e w' ⟨rfl, rfl⟩) | (go_at_call 14; (with_reducible refine (in_yes (b3 : Int) 128 191 _ Q2.out).mono ?_); rintro e w' ⟨rfl, rfl⟩))
  go_quiet (fail)
  go_wp2
  go_ret2
  exact ⟨_, rfl, rfl⟩
end
end Go.Proofs.YtkepmnenafggjaaFmt.Dec
