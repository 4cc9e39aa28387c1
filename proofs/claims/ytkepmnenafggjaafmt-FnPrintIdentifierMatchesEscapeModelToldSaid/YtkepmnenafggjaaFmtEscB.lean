/- The escape appended, and the test for code points of more than 16 bits, by their contracts. Conditions: lengths of at most 2^20. -/
import Derived.Test.YtkepmnenafggjaaFmtEsc
import Derived.Lib.QuoteBits
namespace Go.Proofs.YtkepmnenafggjaaFmt.EscB
open Go.RowKit Go.Deep Go.Proofs.YtkepmnenafggjaaFmt.Base Go.Proofs.YtkepmnenafggjaaFmt.Sls Go.Proofs.YtkepmnenafggjaaFmt.Byw Go.Proofs.YtkepmnenafggjaaFmt.Dec Go.Proofs.YtkepmnenafggjaaFmt.Esc
set_option linter.unusedVariables false
def NB (s : ByteArray) (w : World) (e : Ending) (w' : World) : Prop := ∃ b n, e = .returned (.bool b) ∧ (b = false → Bmp s) ∧ w' = w.drewN n
set_option maxHeartbeats 1000000 in
theorem non5 (s : ByteArray) (w : World) (hm : s.size ≤ 1048576) : Calls Tryf.prog 5 #[.string s] w (NB s w) := by
  go_enter Tryf.func5, Tryf.ntmps5
  go_wp2
  go_loopw [3] (fun i wr => ∃ k p q : Nat, p ≤ s.size ∧ i = .int .i64 p ∧ Hid (p = (st s k).1) ∧ Hid (∀ j, j < k → (st s j).1 < s.size → (Utf8.decode s (st s j).1).1 ≤ 65535) ∧ wr = w.drewN q) (fun i _ => s.size - (intOf i).toNat)
  case atStart => exact ⟨0, 0, 0, by omega, rfl, Lib.hid rfl, Lib.hid (fun j hj => by omega), rfl⟩
  case round =>
    obtain ⟨k, p, q, hp, rfl, HP, HB, rfl⟩ := hrel
    by_cases hlt : p < s.size
    · have C := Lib.hid (dec_any s p (w.drewN q) hm hlt)
      have hw := decode_width s p hlt
      have hc := decode_le s p
      have ST : Hid ((st s (k + 1)).1 = p + (Utf8.decode s p).2) := Lib.hid (by rw [st_step (by rw [← HP.out]; exact hlt), ← HP.out])
      have DK : Hid (Utf8.decode s (st s k).1 = Utf8.decode s p) := Lib.hid (by rw [← HP.out])
      obtain ⟨c, hcq⟩ : ∃ c, (Utf8.decode s p).1 = c := ⟨_, rfl⟩
      obtain ⟨m, hmq⟩ : ∃ m, (Utf8.decode s p).2 = m := ⟨_, rfl⟩
      rw [hcq, hmq] at C
      rw [hmq] at hw ST
      rw [hcq] at hc
      have HC := Lib.hid hcq
      obtain ⟨hw1, hw2⟩ := hw
      clear hcq hmq
      go_wp2_with fail
      refine C.out.mono ?_
      rintro e w' ⟨n, rfl, rfl⟩
      by_cases hbig : 65535 < c
      · have hb2 : (65535 : Int) < (c : Int) := by omega
        go_wp2
        go_ret
        exact ⟨true, q + n, rfl, (fun h => by cases h), by simp⟩
      · have hb2 : ¬ (65535 : Int) < (c : Int) := by omega
        have HB2 : Hid (∀ j, j < k + 1 → (st s j).1 < s.size → (Utf8.decode s (st s j).1).1 ≤ 65535) := Lib.hid (fun j hj hs => by
          by_cases hjk : j < k
          · exact HB.out j hjk hs
          · obtain rfl : j = k := by omega
            rw [DK.out, HC.out]; omega)
        clear HB
        go_wp2
        go_roundw
        case rel => exact ⟨k + 1, p + m, q + n, by omega, by go_num, Lib.hid ST.out.symm, HB2, by simp⟩
        case measure => simp [intOf]; omega
    · have BM : Hid (Bmp s) := Lib.hid (fun j hs => by
        by_cases hjk : j < k
        · exact HB.out j hjk hs
        · exfalso
          obtain ⟨d, hd⟩ := Nat.exists_eq_add_of_le (show k ≤ j by omega)
          have := st_end (s := s) (k := k) (by rw [← HP.out]; exact hlt) d
          rw [← hd] at this
          rw [this, ← HP.out] at hs
          exact hlt hs)
      clear HB HP
      go_wp2
      go_ret
      exact ⟨false, q, rfl, (fun _ => BM.out), rfl⟩
/-- The four digits of a code point of at most 16 bits, as the walk spells them. -/
structure Dg (q d1 d2 d3 d4 : Nat) : Prop where
  l1 : d1 < 16
  l2 : d2 < 16
  l3 : d3 < 16
  l4 : d4 < 16
  e : ¬ (32 ≤ q ∧ q ≤ 126) → outc q = [92, 117, hx d1, hx d2, hx d3, hx d4]
  a1 : bits BinOp.and IntKind.i32 ((q : Int) / 4096) 15 = (d1 : Int)
  a2 : bits BinOp.and IntKind.i32 ((q : Int) / 256) 15 = (d2 : Int)
  a3 : bits BinOp.and IntKind.i32 ((q : Int) / 16) 15 = (d3 : Int)
  a4 : bits BinOp.and IntKind.i32 (q : Int) 15 = (d4 : Int)
  b1 : (q : Int) / 4096 = (d1 : Int)
theorem digits (q : Nat) (hq : q ≤ 65535) : ∃ d1 d2 d3 d4, Dg q d1 d2 d3 d4 := by
  refine ⟨q / 4096, q / 256 % 16, q / 16 % 16, q % 16, by omega, by omega, by omega, by omega, fun h => by unfold outc; rw [if_neg h], ?_, ?_, ?_, ?_, by omega⟩
  · have := Lib.and15_shift (q : Int) q rfl (by omega) 4096
    rw [show q / 4096 % 16 = q / 4096 by omega] at this
    exact this
  · exact Lib.and15_shift (q : Int) q rfl (by omega) 256
  · exact Lib.and15_shift (q : Int) q rfl (by omega) 16
  · exact Lib.and15_i32 q (by omega)
theorem esc9 (A : Option Addr) (n c base : Nat) (l : List UInt8) (q : Nat) (w : World) (hn : l.length ≤ 16777216) (hl : n = l.length) (hq : q ≤ 65535) (hnq : ¬ (32 ≤ q ∧ q ≤ 126)) (ho : Own w base 5 (.slice A n c) (bv l)) (hb : base ≤ w.heap.size) :
    Calls Tryf.prog 9 #[.slice A n c, .int .i32 q] w (Ap base (Value.slice A n c).ownBlock (l ++ outc q) w) := by
  obtain ⟨d1, d2, d3, d4, l1, l2, l3, l4, e, a1, a2, a3, a4, b1⟩ := digits q hq
  have HE := Lib.hid (e hnq)
  have S0 := Lib.hid (Sl.start ho hl)
  have hl2 : (bv l).length ≤ 16777216 := by rw [bv_len]; exact hn
  clear ho hl hnq e b1
  go_enter Tryf.func9, Tryf.ntmps9
  go_wp2_with fail
  refine (hex15 d1 _ l1).mono ?_
  rintro e w' ⟨rfl, rfl⟩
  go_wp2_with fail
  refine (hex15 d2 _ l2).mono ?_
  rintro e w' ⟨rfl, rfl⟩
  go_wp2_with fail
  refine (hex15 d3 _ l3).mono ?_
  rintro e w' ⟨rfl, rfl⟩
  go_wp2_with fail
  refine (hex15 d4 _ l4).mono ?_
  rintro e w' ⟨rfl, rfl⟩
  clear a1 a2 a3 a4
  go_wp2_with (at_builtin; refine append_any _ rfl (.tmp 5) (.tmp 21) 22 5 rfl base Tryf.underlying22 (.int .u8 0) 1 rfl (by omega) infoB (.slice A n c) (bv l) rfl (S0.out.own.alloc _) (w.heap.size + 1) (some ⟨w.heap.size, 0, none⟩) 6 6 [.int .u8 92, .int .u8 117, .int .u8 ((hx d1).toNat : Int), .int .u8 ((hx d2).toNat : Int), .int .u8 ((hx d3).toNat : Int), .int .u8 ((hx d4).toNat : Int)] rfl rfl (rd_cells _ _ _) (one_u8 [92, 117, ((hx d1).toNat : Int), ((hx d2).toNat : Int), ((hx d3).toNat : Int), ((hx d4).toNat : Int)]) (by omega) (le_alloc hb _) ?_; intro v1 w1 o1 g1 at1; obtain ⟨A2, n2, c2, rfl, S2⟩ := S0.out.next (k := [92, 117, hx d1, hx d2, hx d3, hx d4]) g1 o1 at1; have S3 := Lib.hid S2; rw [← HE.out] at S3; clear S2 o1 g1 at1)
  go_ret
  exact ⟨A2, n2, c2, rfl, S3.out⟩
end Go.Proofs.YtkepmnenafggjaaFmt.EscB
