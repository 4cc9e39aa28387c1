/- The map that two lists lay. Conditions: lengths. -/
import Derived.Test.YtfjiejndnbnkfaaFmtOeD
namespace Go.Proofs.YtfjiejndnbnkfaaFmt.OeE
open Go.RowKit Go.Deep Go.Maps Go.ChangeMaps Go.MapKept Go.Proofs.YtfjiejndnbnkfaaFmt.Base Go.Proofs.YtfjiejndnbnkfaaFmt.Sls Go.Proofs.YtfjiejndnbnkfaaFmt.Mps Go.Proofs.YtfjiejndnbnkfaaFmt.Wsum Go.Proofs.YtfjiejndnbnkfaaFmt.Lk Go.Proofs.YtfjiejndnbnkfaaFmt.Lm Go.Proofs.YtfjiejndnbnkfaaFmt.Ln Go.Proofs.YtfjiejndnbnkfaaFmt.OeA Go.Proofs.YtfjiejndnbnkfaaFmt.OeB Go.Proofs.YtfjiejndnbnkfaaFmt.OeC Go.Proofs.YtfjiejndnbnkfaaFmt.OeD
set_option linter.unusedVariables false
def kf (l : List ByteArray) : Nat → ByteArray := fun i => l.getD i { data := #[] }
theorem kf_at (l : List ByteArray) (k : Nat) (h : k < l.length) : kf l k = l[k] := by unfold kf; rw [List.getD_eq_getElem?_getD, List.getElem?_eq_getElem h]; rfl
def Dm (ks vs : Nat → ByteArray) : Nat → DataW Value
  | 0 => .map []
  | k + 1 => (Dm ks vs k).put (kl (ks k)) (.held (.string (vs k)))
section
variable {ks vs : Nat → ByteArray}
theorem Dm_isMap : ∀ k, IsMap (Dm ks vs k)
  | 0 => isMap0
  | k + 1 => put_isMap (Dm_isMap k) _ _
theorem Dm_good : ∀ k, (∀ i, i < k → (vs i).size ≤ maxLen) → OeA.Good (Dm ks vs k)
  | 0, _ => good0
  | k + 1, h => good_put (Dm_good k (fun i hi => h i (by omega))) (Dm_isMap k) _ _ (h k (by omega))
theorem Dm_has : ∀ k (s : ByteArray), Maps.has (Dm ks vs k) (kl s) = true → ∃ i, i < k ∧ ks i = s
  | 0, s, h => (by cases h)
  | k + 1, s, h => by
    unfold Dm at h
    rcases Classical.em (kl s = kl (ks k)) with e | e
    · exact ⟨k, by omega, (kl_inj e).symm⟩
    · rw [has_put_other e] at h
      obtain ⟨i, hi, h⟩ := Dm_has k s h
      exact ⟨i, by omega, h⟩
end
end Go.Proofs.YtfjiejndnbnkfaaFmt.OeE
