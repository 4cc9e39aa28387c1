/- iter and zzPair by their contracts: iter hands back pointers to the two paths of the pair (to the first alone if the second has no text). No condition. -/
import Derived.Test.YthinpiiolegofaaRows
import Derived.Test.YthinpiiolegofaaBase
import Derived.WalkKit
import Derived.ProofKit
import Derived.OpenShut
import Derived.ShutString
import Derived.WalkLawsBesides
import Derived.WalkSpells
import Derived.Handy
import Derived.Outline
import Derived.RegionTactic
import Derived.Deep.QuietTactic
import Derived.BigQuiet
namespace Go.Proofs.Ythinpiiolegofaa.Pair
open Go.ChangeShapes Go.WideShapes Go.ChangeAt Go.RowKit Go.Proofs.Ythinpiiolegofaa.Base
set_option linter.unusedVariables false
theorem iter_two (b : Nat) (st : ByteArray) (w : World) (hb : b < w.heap.size) (c5 : w.cell? ⟨b, 5, none⟩ = some (.string st)) (hn : ¬ st.toList = []) (hn2 : st.toList.isEmpty = false) :
    Calls Try.prog 8 #[.pointer (some ⟨b, 0, none⟩)] w fun e w' => e = .returned (.slice (some ⟨w.heap.size, 0, none⟩) 2 2) ∧ w' = (w.alloc (.cells #[.pointer (some ⟨b, 0, none⟩), .pointer (some ⟨b, 5, none⟩)] 35)).drew := by
  have c6 : ∀ o, (w.alloc o).cell? ⟨b, 5, none⟩ = some (.string st) := fun o => by
    rw [bcell ((Below.refl w.heap.size w).alloc (Nat.le_refl _) o) hb]; exact c5
  go_enter Try.func8, Try.ntmps8
  go_wp2
  go_region
  go_wp2
  go_ret
  exact ⟨rfl, rfl⟩
theorem iter_one (b : Nat) (st : ByteArray) (w : World) (hb : b < w.heap.size) (c5 : w.cell? ⟨b, 5, none⟩ = some (.string st)) (hn : st.toList = []) (hn2 : st.toList.isEmpty = true) :
    Calls Try.prog 8 #[.pointer (some ⟨b, 0, none⟩)] w fun e w' => e = .returned (.slice (some ⟨w.heap.size, 0, none⟩) 1 2) ∧ w' = (w.alloc (.cells #[.pointer (some ⟨b, 0, none⟩), .pointer (some ⟨b, 5, none⟩)] 35)).drew := by
  have c6 : ∀ o, (w.alloc o).cell? ⟨b, 5, none⟩ = some (.string st) := fun o => by
    rw [bcell ((Below.refl w.heap.size w).alloc (Nat.le_refl _) o) hb]; exact c5
  go_enter Try.func8, Try.ntmps8
  go_wp2
  go_region
  go_wp2
  go_ret
  exact ⟨rfl, rfl⟩
end Go.Proofs.Ythinpiiolegofaa.Pair
