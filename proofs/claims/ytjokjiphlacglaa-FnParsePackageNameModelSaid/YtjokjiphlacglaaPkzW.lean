/- The walk of the law FnParsePackageNameModel: it returns true for every string. No condition. -/
import Derived.Test.YtjokjiphlacglaaPkmA
import Derived.Test.YtjokjiphlacglaaPkmB
import Derived.Test.YtjokjiphlacglaaPkmC
import Derived.Test.YtjokjiphlacglaaPkmD
namespace Go.Proofs.Ytjokjiphlacglaa.fnParsePackageNameModel
open Go.ChangeShapes Go.WideShapes Go.ChangeAt Go.RowKit Go.Proofs.Ytjokjiphlacglaa.Base Go.Proofs.Ytjokjiphlacglaa.Names Go.Proofs.Ytjokjiphlacglaa.Pct Go.Proofs.Ytjokjiphlacglaa.Pkn Go.Proofs.Ytjokjiphlacglaa.Pkj
set_option linter.unusedVariables false
theorem cutted (s : ByteArray) (k : Nat) (w : World) (hs : s.size ≤ 1048576) (h0 : 0 < s.size) (hk : Cut s k) (hc : ∀ w, Calls Try.prog 11 #[.string s] w fun e w' => e = .returned (tri s k) ∧ Below w.heap.size w w') :
    Calls Try.prog 4 #[.string s] w fun e w' => e = .returned (.bool true) ∧ Below w.heap.size w w' := by
  obtain ⟨D, hD⟩ : ∃ D, Lib.hasPrefix (s.extract 0 k).data.toList [46] = D := ⟨_, rfl⟩
  obtain ⟨m, hm⟩ : ∃ m, m = cntB 92 (s.extract 0 k) := ⟨_, rfl⟩
  obtain ⟨n, hn⟩ : ∃ n, n = cntB 37 (s.extract 0 k) := ⟨_, rfl⟩
  have hks := hk.le
  have hsz := size_to s k hks
  have hkz : (s.extract 0 k).size ≤ 1048576 := by omega
  have C12 := fun W => zhp (s.extract 0 k) D W hkz hD
  have C92 := fun W => count_any13 92 (s.extract 0 k) W (by omega)
  have C37 := fun W => count_any13 37 (s.extract 0 k) W (by omega)
  rw [← hm] at C92
  rw [← hn] at C37
  have hok : okB (s.extract 0 k) = (!D && !(decide (0 < m) || decide (0 < n))) := by
    unfold okB; rw [hD]; congr 1
    unfold badB; unfold cntB at hm hn
    rw [← hm, ← hn]
    rw [Bool.eq_iff_iff]; simp
  have C := hc w
  unfold tri at C
  rw [hok] at C
  have hT := tail_of D m n
  generalize (!D && !(decide (0 < m) || decide (0 < n))) = ok at C hT
  clear hD hm hn hok hc
  have hend : k < s.size ∨ k = s.size := by omega
  by_cases hp : Lib.hasPrefix s.data.toList [64] = true
  · have hne : need s = 1 := by unfold need; rw [if_pos hp]
    rcases hend with hkl | hkl
    · cases hT with
      | dot => exact core_1_lt_dot s k w hs h0 hk hkl m n hp hne C12 C92 C37 C
      | back _ _ hm => exact core_1_lt_back s k w hs h0 hk hkl m n hm hp hne C12 C92 C37 C
      | perc _ hn => exact core_1_lt_perc s k w hs h0 hk hkl n hn hp hne C12 C92 C37 C
      | none => exact core_1_lt_none s k w hs h0 hk hkl hp hne C12 C92 C37 C
    · cases hT with
      | dot => exact core_1_eq_dot s k w hs h0 hk hkl m n hp hne C12 C92 C37 C
      | back _ _ hm => exact core_1_eq_back s k w hs h0 hk hkl m n hm hp hne C12 C92 C37 C
      | perc _ hn => exact core_1_eq_perc s k w hs h0 hk hkl n hn hp hne C12 C92 C37 C
      | none => exact core_1_eq_none s k w hs h0 hk hkl hp hne C12 C92 C37 C
  · have hp' : Lib.hasPrefix s.data.toList [64] = false := by simpa using hp
    have hne : need s = 0 := by unfold need; rw [if_neg hp]
    rcases hend with hkl | hkl
    · cases hT with
      | dot => exact core_0_lt_dot s k w hs h0 hk hkl m n hp' hne C12 C92 C37 C
      | back _ _ hm => exact core_0_lt_back s k w hs h0 hk hkl m n hm hp' hne C12 C92 C37 C
      | perc _ hn => exact core_0_lt_perc s k w hs h0 hk hkl n hn hp' hne C12 C92 C37 C
      | none => exact core_0_lt_none s k w hs h0 hk hkl hp' hne C12 C92 C37 C
    · cases hT with
      | dot => exact core_0_eq_dot s k w hs h0 hk hkl m n hp' hne C12 C92 C37 C
      | back _ _ hm => exact core_0_eq_back s k w hs h0 hk hkl m n hm hp' hne C12 C92 C37 C
      | perc _ hn => exact core_0_eq_perc s k w hs h0 hk hkl n hn hp' hne C12 C92 C37 C
      | none => exact core_0_eq_none s k w hs h0 hk hkl hp' hne C12 C92 C37 C
theorem walk (a0 : ByteArray) (w : World) (w0 : a0.size ≤ maxLen) :
    Calls Try.prog 4 #[.string a0] w fun e w' => e = .returned (.bool true) ∧ Below w.heap.size w w' := by
  by_cases hs : a0.size ≤ 1048576
  · rcases pkg_all a0 hs with ⟨hr, hc⟩ | ⟨h0, k, hk, hc⟩
    · exact refused a0 w hs hr hc
    · exact cutted a0 k w hs h0 hk hc
  · have H := Lib.hid (bytes10 a0 w w0)
    have HS := Lib.hid hs
    clear w0 hs
    go_enter Try.func4, Try.ntmps4
    go_wp2_with fail
    refine H.out.mono ?_
    rintro e w' ⟨b, rfl, hb, rfl⟩
    cases b
    · clear hb
      go_wp2
      go_ret
      exact ⟨rfl, Below.refl _ _⟩
    · exact absurd (hb rfl) HS.out
end Go.Proofs.Ytjokjiphlacglaa.fnParsePackageNameModel
