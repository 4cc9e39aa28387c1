/- zzBytes of the law by its contract. No condition but lengths. -/
import Derived.Test.YtokgfimcpgnjlaaBase
import Derived.Test.YtokgfimcpgnjlaaProg
import Derived.WalkSpells
import Derived.WalkLawsBesides
namespace Go.Proofs.Ytokgfimcpgnjlaa.NotB
open Go.RowKit Go.Proofs.Ytokgfimcpgnjlaa.Base
def Bd (P : Prop) (w : World) (e : Ending) (w' : World) : Prop := ∃ b : Bool, e = .returned (.bool b) ∧ (b = true → P) ∧ w = w'
set_option linter.unusedVariables false
/-- If it says yes, what the arguments lead to is short. -/
theorem bytes_any (s0 : ByteArray) (s1 : ByteArray) (s2 : ByteArray) (x3 : Value) (x4 : Value) (w : World) (hs0 : s0.size ≤ maxLen) (hs1 : s1.size ≤ maxLen) (hs2 : s2.size ≤ maxLen) :
    Calls Try.prog 4 #[.string s0, .string s1, .string s2, x3, x4] w (Bd (s0.size + s1.size + s2.size ≤ 1048576) w) := by
  unfold maxLen at hs0
  unfold maxLen at hs1
  unfold maxLen at hs2
  go_enter Try.func4, Try.ntmps4
  go_wp2
  all_goals first | (go_ret; exact ⟨false, rfl, (fun h => by cases h), rfl⟩) | skip
  go_ret
  exact ⟨true, rfl, (fun _ => by omega), rfl⟩
end Go.Proofs.Ytokgfimcpgnjlaa.NotB
