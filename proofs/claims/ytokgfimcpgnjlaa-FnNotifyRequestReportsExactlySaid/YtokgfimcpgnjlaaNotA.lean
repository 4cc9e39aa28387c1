/- The hook and its call by their contracts. No condition but bounds of the duration. -/
import Derived.Test.YtokgfimcpgnjlaaBase
import Derived.Test.YtokgfimcpgnjlaaProg
import Derived.WalkSpells
import Derived.WalkLawsBesides
namespace Go.Proofs.Ytokgfimcpgnjlaa.NotA
open Go.RowKit Go.Proofs.Ytokgfimcpgnjlaa.Base
set_option linter.unusedVariables false
theorem ms8 (d : Int) (w : World) (h0 : -1125899906842624 ≤ d) (h1 : d ≤ 1125899906842624) : Calls Try.prog 8 #[.int .i64 d] w fun e w' => e = .returned (.int .i64 (d.tdiv 1000000)) ∧ w = w' := by
  have hb : -1125899906842624 ≤ d.tdiv 1000000 ∧ d.tdiv 1000000 ≤ 1125899906842624 := by
    constructor
    · rcases Int.le_total 0 d with h | h
      · have := Int.tdiv_nonneg h (show (0 : Int) ≤ 1000000 by decide); omega
      · have e : d = -(-d) := by omega
        rw [e, Int.neg_tdiv, Int.tdiv_eq_ediv_of_nonneg (by omega)]; omega
    · rcases Int.le_total 0 d with h | h
      · rw [Int.tdiv_eq_ediv_of_nonneg h]; omega
      · have e : d = -(-d) := by omega
        rw [e, Int.neg_tdiv, Int.tdiv_eq_ediv_of_nonneg (by omega)]; omega
  have HB := Lib.hid hb
  clear hb
  go_enter Try.func8, Try.ntmps8
  go_wp2
  go_ret
  exact ⟨ret_int rfl, rfl⟩
end Go.Proofs.Ytokgfimcpgnjlaa.NotA
