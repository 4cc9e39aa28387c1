/- The reader's small functions by their contracts: a hex digit's worth; one UTF-8 sequence. No condition but the bytes themselves. -/
import Derived.Test.YtpoakndmajoiaaaFmtUnb
import Derived.Laws.BitsAllLaws
import Derived.Deep.QuietTactic
import Derived.IntWalk
namespace Go.Proofs.YtpoakndmajoiaaaFmt.Dcu
open Go.RowKit Go.Deep Go.Proofs.YtpoakndmajoiaaaFmt.Base Go.Proofs.YtpoakndmajoiaaaFmt.Sls Go.Proofs.YtpoakndmajoiaaaFmt.Byw Go.Proofs.YtpoakndmajoiaaaFmt.Esq
set_option linter.unusedVariables false
theorem hex11 (d : Nat) (h : d < 16) (w : World) : Calls Tryf.prog 11 #[.int .u8 ((Esq.hx d).toNat : Int)] w fun e w' => e = .returned (.int .i64 (d : Int)) ∧ w = w' := by
  unfold Esq.hx
  by_cases h1 : d < 10
  · rw [if_pos h1, UInt8.toNat_ofNat_of_lt' (by show 48 + d < 256; omega)]
    obtain ⟨z, hz⟩ : ∃ z : Int, z = ((48 + d : Nat) : Int) := ⟨_, rfl⟩
    rw [← hz]
    have t1 : (48 : Int) ≤ z := by omega
    have t2 : z ≤ 57 := by omega
    have hd : (d : Int) = z - 48 := by omega
    rw [hd]
    clear hz hd h1 h
    go_enter Tryf.func11, Tryf.ntmps11
    go_wp2
    go_ret
    exact ⟨rfl, rfl⟩
  · rw [if_neg h1, UInt8.toNat_ofNat_of_lt' (by show 55 + d < 256; omega)]
    obtain ⟨z, hz⟩ : ∃ z : Int, z = ((55 + d : Nat) : Int) := ⟨_, rfl⟩
    rw [← hz]
    have t0 : (48 : Int) ≤ z := by omega
    have t3 : ¬ z ≤ 57 := by omega
    have t1 : (65 : Int) ≤ z := by omega
    have t2 : z ≤ 70 := by omega
    have hd : (d : Int) = z - 65 + 10 := by omega
    rw [hd]
    clear hz hd h1 h
    go_enter Tryf.func11, Tryf.ntmps11
    go_wp2
    go_ret
    exact ⟨rfl, rfl⟩
theorem cont14 (z : Int) (t1 : 128 ≤ z) (t2 : z ≤ 191) (w : World) : Calls Tryf.prog 14 #[.int .u8 z] w fun e w' => e = .returned (.bool true) ∧ w = w' := by
  go_enter Tryf.func14, Tryf.ntmps14
  go_wp2
  go_ret
  exact ⟨rfl, rfl⟩
theorem i64_and (a m : Nat) (ha : a < 2147483648) (hm : m < 2147483648) : bits .and .i64 (a : Int) (m : Int) = ((a &&& m : Nat) : Int) := by
  have hl : a &&& m ≤ a := Nat.and_le_left
  show IntKind.i64.wrap ((BitVec.ofInt 64 (a : Int) &&& BitVec.ofInt 64 (m : Int)).toNat : Int) = _
  rw [BitVec.toNat_and, ofInt_u64 a (by omega), ofInt_u64 m (by omega), IntKind.wrap_i64]
  omega
theorem i64_or (a m : Nat) (ha : a < 2147483648) (hm : m < 2147483648) (h : a ||| m = a + m) : bits .or .i64 (a : Int) (m : Int) = ((a + m : Nat) : Int) := by
  show IntKind.i64.wrap ((BitVec.ofInt 64 (a : Int) ||| BitVec.ofInt 64 (m : Int)).toNat : Int) = _
  rw [BitVec.toNat_or, ofInt_u64 a (by omega), ofInt_u64 m (by omega), h, IntKind.wrap_i64]
  omega
theorem and31 (x : Int) (a : Nat) (hx : x = ((192 + a : Nat) : Int)) (h : a < 32) : bits .and .i64 x 31 = (a : Int) := by
  subst hx
  have := i64_and (192 + a) 31 (by omega) (by omega)
  rw [nat_mask5] at this
  rw [show (31 : Int) = ((31 : Nat) : Int) from rfl, this]
  omega
theorem and15' (x : Int) (a : Nat) (hx : x = ((224 + a : Nat) : Int)) (h : a < 16) : bits .and .i64 x 15 = (a : Int) := by
  subst hx
  have := i64_and (224 + a) 15 (by omega) (by omega)
  rw [nat_mask4] at this
  rw [show (15 : Int) = ((15 : Nat) : Int) from rfl, this]
  omega
theorem and7 (x : Int) (a : Nat) (hx : x = ((240 + a : Nat) : Int)) (h : a < 8) : bits .and .i64 x 7 = (a : Int) := by
  subst hx
  have := i64_and (240 + a) 7 (by omega) (by omega)
  rw [nat_mask3] at this
  rw [show (7 : Int) = ((7 : Nat) : Int) from rfl, this]
  omega
theorem and63 (x : Int) (a : Nat) (hx : x = ((128 + a : Nat) : Int)) (h : a < 64) : bits .and .u8 x 63 = (a : Int) := by
  subst hx
  have := u8_and_nat (128 + a) 63 (by omega) (by omega)
  rw [nat_mask6] at this
  rw [show (63 : Int) = ((63 : Nat) : Int) from rfl, this]
  omega
theorem or6 (x y : Int) (a b : Nat) (hx : x = (a : Int) * 64) (hy : y = (b : Int)) (ha : a < 32768) (hb : b < 64) : bits .or .i64 x y = x + y := by
  have e : x = ((a * 64 : Nat) : Int) := by omega
  rw [e, hy, i64_or (a * 64) b (by omega) (by omega) (nat_join 6 _ _ (by omega) hb)]
  omega
theorem or12 (x y : Int) (a b : Nat) (hx : x = (a : Int) * 4096) (hy : y = (b : Int)) (ha : a < 512) (hb : b < 4096) : bits .or .i64 x y = x + y := by
  have e : x = ((a * 4096 : Nat) : Int) := by omega
  rw [e, hy, i64_or (a * 4096) b (by omega) (by omega) (nat_join 12 _ _ (by omega) hb)]
  omega
theorem or18 (x y : Int) (a b : Nat) (hx : x = (a : Int) * 262144) (hy : y = (b : Int)) (ha : a < 8) (hb : b < 262144) : bits .or .i64 x y = x + y := by
  have e : x = ((a * 262144 : Nat) : Int) := by omega
  rw [e, hy, i64_or (a * 262144) b (by omega) (by omega) (nat_join 18 _ _ (by omega) hb)]
  omega
/-- What the decoder answers. -/
def De (r n : Nat) (w : World) (e : Ending) (w' : World) : Prop := e = .returned (.tuple #[.int .i64 (r : Int), .int .i64 (n : Int), .bool true]) ∧ ∃ k, w' = w.drewN k
set_option maxRecDepth 20000 in
set_option maxHeartbeats 2000000 in
theorem dec2 (w : World) (x : Addr) (n1 c1 k a b : Nat) (ha : 2 ≤ a) (ha2 : a < 32) (hb : b < 64) (h0 : w.cell? (x.add k) = some (.int .u8 ((192 + a : Nat) : Int))) (h1 : w.cell? ⟨x.block, x.off + (k + 1), none⟩ = some (.int .u8 ((128 + b : Nat) : Int)))
    (hk : k + 1 < n1) (hn : n1 ≤ 1073741824) : Calls Tryf.prog 12 #[.slice (some x) n1 c1, .int .i64 (k : Int)] w (De (a * 64 + b) 2 w) := by
  obtain ⟨z, hz⟩ : ∃ z : Int, z = ((192 + a : Nat) : Int) := ⟨_, rfl⟩
  obtain ⟨y, hy⟩ : ∃ y : Int, y = ((128 + b : Nat) : Int) := ⟨_, rfl⟩
  rw [← hz] at h0
  rw [← hy] at h1
  have t1 : (194 : Int) ≤ z := by omega
  have t2 : z ≤ 223 := by omega
  have u1 : (128 : Int) ≤ y := by omega
  have u2 : y ≤ 191 := by omega
  have e1 := and31 z a hz ha2
  have e2 := and63 y b hy hb
  have e3 := or6 ((a : Int) * 64) b a b rfl rfl (by omega) hb
  have R := Lib.hid (show ((a * 64 + b : Nat) : Int) = (a : Int) * 64 + b by omega)
  have t3 : (k : Int) + 1 < (n1 : Int) := by omega
  have s1 : (a : Int) < 32 := by omega
  have s2 : (b : Int) < 64 := by omega
  clear hz hy
  go_enter Tryf.func12, Tryf.ntmps12
  go_wp2_with (first | (go_at_call 14; refine (cont14 _ (by assumption) (by assumption) _).mono ?_; rintro _ _ ⟨rfl, rfl⟩) | fail)
  try simp only [Exit.inBlock, Exit.then]
  refine bodyPost_ret (v := .tuple #[.int .i64 ((a : Int) * 64 + b), .int .i64 2, .bool true]) (by simp [results, Tryf.results12, go_sem]) rfl ⟨by rw [R.out]; rfl, 0, rfl⟩
set_option maxRecDepth 20000 in
set_option maxHeartbeats 2000000 in
theorem dec3 (w : World) (x : Addr) (n1 c1 k a b c : Nat) (ha : a < 16) (hb : b < 64) (hc : c < 64) (hr : 2048 ≤ a * 4096 + b * 64 + c) (hs : a * 4096 + b * 64 + c < 55296 ∨ 57343 < a * 4096 + b * 64 + c) (h0 : w.cell? (x.add k) = some (.int .u8 ((224 + a : Nat) : Int))) (h1 : w.cell? ⟨x.block, x.off + (k + 1), none⟩ = some (.int .u8 ((128 + b : Nat) : Int)))
    (h2 : w.cell? ⟨x.block, x.off + (k + 2), none⟩ = some (.int .u8 ((128 + c : Nat) : Int)))
    (hk : k + 2 < n1) (hn : n1 ≤ 1073741824) : Calls Tryf.prog 12 #[.slice (some x) n1 c1, .int .i64 (k : Int)] w (De (a * 4096 + b * 64 + c) 3 w) := by
  obtain ⟨z, hz⟩ : ∃ z : Int, z = ((224 + a : Nat) : Int) := ⟨_, rfl⟩
  obtain ⟨y, hy⟩ : ∃ y : Int, y = ((128 + b : Nat) : Int) := ⟨_, rfl⟩
  obtain ⟨v, hv⟩ : ∃ v : Int, v = ((128 + c : Nat) : Int) := ⟨_, rfl⟩
  rw [← hz] at h0
  rw [← hy] at h1
  rw [← hv] at h2
  have t0 : ¬ z ≤ 223 := by omega
  have t9 : (194 : Int) ≤ z := by omega
  have t1 : (224 : Int) ≤ z := by omega
  have t2 : z ≤ 239 := by omega
  have u1 : (128 : Int) ≤ y := by omega
  have u2 : y ≤ 191 := by omega
  have u3 : (128 : Int) ≤ v := by omega
  have u4 : v ≤ 191 := by omega
  have e1 := and15' z a hz ha
  have e2 := and63 y b hy hb
  have e3 := and63 v c hv hc
  obtain ⟨R, hR⟩ : ∃ R : Int, R = (a : Int) * 4096 + (b : Int) * 64 + (c : Int) := ⟨_, rfl⟩
  have e4 : bits .or .i64 ((a : Int) * 4096) ((b : Int) * 64) = (a : Int) * 4096 + (b : Int) * 64 := or12 _ _ a (b * 64) rfl (by omega) (by omega) (by omega)
  have e5 : bits .or .i64 ((a : Int) * 4096 + (b : Int) * 64) (c : Int) = R := by rw [or6 _ (c : Int) (a * 64 + b) c (by omega) rfl (by omega) hc]; omega
  have RR := Lib.hid (show ((a * 4096 + b * 64 + c : Nat) : Int) = R by omega)
  have t3 : (k : Int) + 2 < (n1 : Int) := by omega
  have t4 : (k : Int) + 1 < (n1 : Int) := by omega
  have s1 : (a : Int) < 16 := by omega
  have s2 : (b : Int) < 64 := by omega
  have s3 : (c : Int) < 64 := by omega
  have r1 : ¬ R < 2048 := by omega
  have r3 : R ≤ 65535 := by omega
  have r4 : 0 ≤ R := by omega
  have rr : R < 55296 ∨ (55296 ≤ R ∧ ¬ R ≤ 57343) := by omega
  clear hz hy hv hR hs hr
  go_enter Tryf.func12, Tryf.ntmps12
  go_wp2_with (first | (go_at_call 14; refine (cont14 _ (by assumption) (by assumption) _).mono ?_; rintro _ _ ⟨rfl, rfl⟩) | fail)
  go_quiet (fail)
  rcases rr with rr | ⟨rr, rr2⟩
  all_goals
    go_wp2_with (fail)
    try simp only [Exit.inBlock, Exit.then]
    refine bodyPost_ret (v := .tuple #[.int .i64 R, .int .i64 3, .bool true]) (by simp [results, Tryf.results12, go_sem]) rfl ⟨by rw [RR.out]; rfl, _, rfl⟩
set_option maxRecDepth 20000 in
set_option maxHeartbeats 4000000 in
theorem dec4 (w : World) (x : Addr) (n1 c1 k a b c d : Nat) (ha : a < 5) (hb : b < 64) (hc : c < 64) (hd : d < 64) (hr : 65536 ≤ a * 262144 + b * 4096 + c * 64 + d) (hs : a * 262144 + b * 4096 + c * 64 + d ≤ 1114111) (h0 : w.cell? (x.add k) = some (.int .u8 ((240 + a : Nat) : Int))) (h1 : w.cell? ⟨x.block, x.off + (k + 1), none⟩ = some (.int .u8 ((128 + b : Nat) : Int)))
    (h2 : w.cell? ⟨x.block, x.off + (k + 2), none⟩ = some (.int .u8 ((128 + c : Nat) : Int))) (h3 : w.cell? ⟨x.block, x.off + (k + 3), none⟩ = some (.int .u8 ((128 + d : Nat) : Int)))
    (hk : k + 3 < n1) (hn : n1 ≤ 1073741824) : Calls Tryf.prog 12 #[.slice (some x) n1 c1, .int .i64 (k : Int)] w (De (a * 262144 + b * 4096 + c * 64 + d) 4 w) := by
  obtain ⟨z, hz⟩ : ∃ z : Int, z = ((240 + a : Nat) : Int) := ⟨_, rfl⟩
  obtain ⟨y, hy⟩ : ∃ y : Int, y = ((128 + b : Nat) : Int) := ⟨_, rfl⟩
  obtain ⟨v, hv⟩ : ∃ v : Int, v = ((128 + c : Nat) : Int) := ⟨_, rfl⟩
  obtain ⟨u, hu⟩ : ∃ u : Int, u = ((128 + d : Nat) : Int) := ⟨_, rfl⟩
  rw [← hz] at h0
  rw [← hy] at h1
  rw [← hv] at h2
  rw [← hu] at h3
  have t9 : (194 : Int) ≤ z := by omega
  have t0 : ¬ z ≤ 223 := by omega
  have t8 : (224 : Int) ≤ z := by omega
  have t7 : ¬ z ≤ 239 := by omega
  have t1 : (240 : Int) ≤ z := by omega
  have t2 : z ≤ 244 := by omega
  have u1 : (128 : Int) ≤ y := by omega
  have u2 : y ≤ 191 := by omega
  have u3 : (128 : Int) ≤ v := by omega
  have u4 : v ≤ 191 := by omega
  have u5 : (128 : Int) ≤ u := by omega
  have u6 : u ≤ 191 := by omega
  have e1 := and7 z a hz (by omega)
  have e2 := and63 y b hy hb
  have e3 := and63 v c hv hc
  have e6 := and63 u d hu hd
  obtain ⟨R, hR⟩ : ∃ R : Int, R = (a : Int) * 262144 + (b : Int) * 4096 + (c : Int) * 64 + (d : Int) := ⟨_, rfl⟩
  have e4 : bits .or .i64 ((a : Int) * 262144) ((b : Int) * 4096) = (a : Int) * 262144 + (b : Int) * 4096 := or18 _ _ a (b * 4096) rfl (by omega) (by omega) (by omega)
  have e5 : bits .or .i64 ((a : Int) * 262144 + (b : Int) * 4096) ((c : Int) * 64) = (a : Int) * 262144 + (b : Int) * 4096 + (c : Int) * 64 := or12 _ _ (a * 64 + b) (c * 64) (by omega) (by omega) (by omega) (by omega)
  have e7 : bits .or .i64 ((a : Int) * 262144 + (b : Int) * 4096 + (c : Int) * 64) (d : Int) = R := by rw [or6 _ (d : Int) (a * 4096 + b * 64 + c) d (by omega) rfl (by omega) hd]; omega
  have RR := Lib.hid (show ((a * 262144 + b * 4096 + c * 64 + d : Nat) : Int) = R by omega)
  have t3 : (k : Int) + 3 < (n1 : Int) := by omega
  have t4 : (k : Int) + 2 < (n1 : Int) := by omega
  have t5 : (k : Int) + 1 < (n1 : Int) := by omega
  have s1 : (a : Int) < 5 := by omega
  have s2 : (b : Int) < 64 := by omega
  have s3 : (c : Int) < 64 := by omega
  have s4 : (d : Int) < 64 := by omega
  have r1 : ¬ R < 65536 := by omega
  have r3 : R ≤ 1114111 := by omega
  have r4 : 0 ≤ R := by omega
  clear hz hy hv hu hR hs hr
  go_enter Tryf.func12, Tryf.ntmps12
  go_wp2_with (first | (go_at_call 14; refine (cont14 _ (by assumption) (by assumption) _).mono ?_; rintro _ _ ⟨rfl, rfl⟩) | fail)
  go_quiet (fail)
  go_wp2_with (fail)
  try simp only [Exit.inBlock, Exit.then]
  refine bodyPost_ret (v := .tuple #[.int .i64 R, .int .i64 4, .bool true]) (by simp [results, Tryf.results12, go_sem]) rfl ⟨by rw [RR.out]; rfl, _, rfl⟩
end Go.Proofs.YtpoakndmajoiaaaFmt.Dcu
