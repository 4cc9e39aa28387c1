/- The law's walk: the recorder saw one call with all five values. Conditions: none but what came in. -/
import Derived.Test.YtokgfimcpgnjlaaNotD
namespace Go.Proofs.Ytokgfimcpgnjlaa.fnNotifyRequestReportsExactly
open Go.RowKit Go.Deep Go.Proofs.Ytokgfimcpgnjlaa.Base Go.Proofs.Ytokgfimcpgnjlaa.NotA Go.Proofs.Ytokgfimcpgnjlaa.NotB Go.Proofs.Ytokgfimcpgnjlaa.NotC Go.Proofs.Ytokgfimcpgnjlaa.NotD
set_option linter.unusedVariables false
def Quot (d q : Int) : Prop := (0 ≤ d → 0 ≤ q ∧ q * 1000000 ≤ d ∧ d < (q + 1) * 1000000) ∧ (d < 0 → q ≤ 0 ∧ d ≤ q * 1000000 ∧ (q - 1) * 1000000 < d)
theorem quot (d : Int) : Quot d (d.tdiv 1000000) := by
  constructor
  · intro h
    rw [Int.tdiv_eq_ediv_of_nonneg h]; omega
  · intro h
    have e : d = -(-d) := by omega
    rw [e, Int.neg_tdiv, Int.tdiv_eq_ediv_of_nonneg (by omega)]; omega
theorem rec5q (a b c : ByteArray) (st d : Int) (w : World) (hd0 : -1125899906842624 ≤ d) (hd1 : d ≤ 1125899906842624) :
    Calls Try.prog 5 #[.string a, .string b, .string c, .int .i64 st, .int .i64 d] w fun e w' => ∃ q, Quot d q ∧ e = .returned (.tuple #[.agg #[.string a, .string b, .string c, .int .i64 st, .int .i64 q], .int .i64 1]) ∧ Below w.heap.size w w' :=
  (rec5 a b c st d w hd0 hd1).mono fun e w' h => ⟨_, quot d, h⟩
set_option maxRecDepth 20000 in
set_option maxHeartbeats 2000000 in
theorem walk (a0 a1 a2 : ByteArray) (a3 a4 : Int) (w : World) (w0 : a0.size ≤ maxLen) (w1 : a1.size ≤ maxLen) (w2 : a2.size ≤ maxLen) (w3 : (Lit.int .i64 a3).wf = true) (w4 : (Lit.int .i64 a4).wf = true) :
    Calls Try.prog 3 #[.string a0, .string a1, .string a2, .int .i64 a3, .int .i64 a4] w fun e w' => e = .returned (.bool true) ∧ Below w.heap.size w w' := by
  have HB := Lib.hid (bytes_any a0 a1 a2 (.int .i64 a3) (.int .i64 a4) w w0 w1 w2)
  unfold maxLen at w0 w1 w2
  by_cases hd : -1125899906842624 ≤ a4 ∧ a4 ≤ 1125899906842624
  · obtain ⟨h0, h1⟩ := hd
    go_enter Try.func3, Try.ntmps3
    go_wp2_with (first | (go_at_call 4; refine HB.out.mono ?_; rintro e w7 ⟨b, rfl, hb, rfl⟩; clear hb) | (go_at_call 5; refine (rec5q a0 a1 a2 a3 a4 w h0 h1).mono ?_; rintro e w8 ⟨q, hq, rfl, hbel⟩; have HQ := Lib.hid hq; have HL := Lib.hid hbel; clear hq hbel))
    all_goals first | (go_ret; exact ⟨rfl, Below.refl _ _⟩) | skip
    all_goals
      have h := HQ.out
      unfold Quot at h
      have e1 : wrap64 (q + 1) = q + 1 := by unfold wrap64; omega
      have e2 : wrap64 (q - 1) = q - 1 := by unfold wrap64; omega
      have e3 : wrap64 (q * 1000000) = q * 1000000 := by unfold wrap64; omega
      have e4 : wrap64 ((q + 1) * 1000000) = (q + 1) * 1000000 := by unfold wrap64; omega
      have e5 : wrap64 ((q - 1) * 1000000) = (q - 1) * 1000000 := by unfold wrap64; omega
      go_ret
      refine ⟨ret_bool ?_, HL.out.alloc HL.out.size _⟩
      simp only [e1, e2, e3, e4, e5] at *
      first | (rw [decide_eq_true_eq]; omega) | (exfalso; omega)
  · have h0 : a4 < -1125899906842624 ∨ 1125899906842624 < a4 := by omega
    clear hd
    go_enter Try.func3, Try.ntmps3
    rcases h0 with h0 | h0
    all_goals
      go_wp2_with (go_at_call 4; refine HB.out.mono ?_; rintro e w7 ⟨b, rfl, hb, rfl⟩; clear hb)
      all_goals (go_ret; exact ⟨rfl, Below.refl _ _⟩)
end Go.Proofs.Ytokgfimcpgnjlaa.fnNotifyRequestReportsExactly
