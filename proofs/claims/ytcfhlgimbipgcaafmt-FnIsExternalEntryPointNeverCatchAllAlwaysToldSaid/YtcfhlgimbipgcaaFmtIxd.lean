/- The exported isExternal over what zzBuild returns. Conditions: lengths. -/
import Derived.Test.YtcfhlgimbipgcaaFmtIxc
namespace Go.Proofs.YtcfhlgimbipgcaaFmt.Ixd
open Go.RowKit Go.Deep Go.Proofs.YtcfhlgimbipgcaaFmt.Base Go.Proofs.YtcfhlgimbipgcaaFmt.Sls Go.Proofs.YtcfhlgimbipgcaaFmt.Mps Go.Proofs.YtcfhlgimbipgcaaFmt.Ixa Go.Proofs.YtcfhlgimbipgcaaFmt.Ixb Go.Proofs.YtcfhlgimbipgcaaFmt.Ixc
set_option linter.unusedVariables false
theorem mp_look {w : World} {base : Nat} {M : Value} (h : Mp w base M) (p : ByteArray) (hp : p.size ≤ 1048576) : ∃ x b, ∀ o o0 o1, Lk (((w.alloc o).alloc o0).alloc o1) M p x b := by
  rcases h with rfl | ⟨b, n, f, rfl, _, _, hm⟩
  · exact ⟨_, _, fun o o0 o1 => lk_none _ p⟩
  · exact ⟨_, _, fun o o0 o1 => lk_map (((hm.alloc o).alloc o0).alloc o1) p (by unfold maxLen; omega)⟩
theorem last_of (l : List (ByteArray × ByteArray)) (q : ByteArray × ByteArray) (h : (l ++ [q]).length - 1 < (l ++ [q]).length) : (l ++ [q])[(l ++ [q]).length - 1] = q := by
  simp
theorem star7 (M v : Value) (p : ByteArray) (k : Int) (b : Bool) (w : World) (base base' : Nat) (l : List (ByteArray × ByteArray)) (hk : (k == 0) = b) (hM : Mp w base M) (hp : p.size ≤ 1048576) (hn : l.length ≤ 1048576) (hv : Pw w base' v (l ++ [({ data := #[] }, { data := #[] })])) (hz : Bo l) :
    Calls Tryf.prog 7 #[.agg #[M, v], .string p, .int .u8 k] w fun e w' => e = .returned (.bool (!b)) ∧ Below w.heap.size w w' := by
  refine zz7 M v p k (!b) w (fun o => ?_)
  cases b
  · obtain ⟨x, c, hl⟩ := mp_look hM p hp
    cases c
    · refine ext_star M v x p k (w.alloc o) base' _ hk (fun o0 o1 => hl o o0 o1) hp (by rw [List.length_append]; show _ + 1 ≤ _; omega) (hv.to fun g hg => blk_alloc_lt _ _ _ (hv.lt hg).2) ?_ (by rw [List.length_append]; show 0 < _ + 1; omega) (fun h => last_of l _ h)
      intro q hq
      rcases List.mem_append.1 hq with hq | hq
      · exact hz q hq
      · obtain rfl : q = ({ data := #[] }, { data := #[] }) := by simpa using hq
        exact ⟨Nat.zero_le _, Nat.zero_le _⟩
    · exact ext_hit M v x p k (w.alloc o) hk (fun o0 o1 => hl o o0 o1)
  · have : k = 0 := by simpa using hk
    subst this
    exact ext_entry M v p (w.alloc o)
theorem hit7 (v : Value) (p : ByteArray) (k : Int) (b : Bool) (w : World) (g n : Nat) (f : ByteArray → Option Value) (hk : (k == 0) = b) (hm : MapIs Tryf.prog 9 w g n f) (hf : f p = some (.bool true)) (hp : p.size ≤ 1048576) :
    Calls Tryf.prog 7 #[.agg #[.map (some g), v], .string p, .int .u8 k] w fun e w' => e = .returned (.bool (!b)) ∧ Below w.heap.size w w' := by
  refine zz7 _ v p k (!b) w (fun o => ?_)
  cases b
  · refine ext_hit _ v (.bool true) p k (w.alloc o) hk (fun o0 o1 => ?_)
    have := lk_map (((hm.alloc o).alloc o0).alloc o1) p (by unfold maxLen; omega)
    rw [hf] at this
    exact this
  · have : k = 0 := by simpa using hk
    subst this
    exact ext_entry _ v p (w.alloc o)
end Go.Proofs.YtcfhlgimbipgcaaFmt.Ixd
