/- msgMatches says yes at a message with these notes. Conditions: at most 4096 notes. -/
import Derived.Test.YtlmkgghfnfhojaaGreatDoorFdd
import Derived.Deep.QuietTactic
import Derived.BigQuiet
namespace Go.Proofs.YtlmkgghfnfhojaaGreatDoor.Fde
open Go.RowKit Go.Deep Go.MuLone Go.Proofs.YtlmkgghfnfhojaaGreatDoor.Base Go.Proofs.YtlmkgghfnfhojaaGreatDoor.Sls Go.Proofs.YtlmkgghfnfhojaaGreatDoor.Lk Go.Proofs.YtlmkgghfnfhojaaGreatDoor.Lm Go.Proofs.YtlmkgghfnfhojaaGreatDoor.Ln Go.Proofs.YtlmkgghfnfhojaaGreatDoor.Fda Go.Proofs.YtlmkgghfnfhojaaGreatDoor.Fdb Go.Proofs.YtlmkgghfnfhojaaGreatDoor.Fdc Go.Proofs.YtlmkgghfnfhojaaGreatDoor.Fdd
set_option linter.unusedVariables false
theorem nts_at {w : World} {base j : Nat} {A : Option Addr} {n c : Nat} {l : List ByteArray} (h : Nts w base (.slice A n c) l) (hj : j < l.length) :
    ∃ g, A = some ⟨g, 0, none⟩ ∧ g < w.heap.size ∧ w.cell? ⟨g, j * 4 + 1, none⟩ = some (.pointer none) ∧ w.cell? ⟨g, j * 4 + 2, none⟩ = some (.string l[j]) ∧ w.cell? ⟨g, j * 4 + 3, none⟩ = some (.bool true) := by
  rcases h.2 with ⟨e, h0⟩ | ⟨g, cap, cur, e, _, hh, _⟩
  · omega
  · injection e with e e1 e2
    have ha : ∀ i, (⟨g, 0, none⟩ : Addr).add i = ⟨g, i, none⟩ := fun i => by unfold Addr.add; split <;> simp_all
    have hc := fun i u (hu : (nv l)[i]? = some u) => by
      have := World.ownsRow.cells h (g := g) (by rw [e]; rfl) i u hu
      rw [ha] at this; exact this
    refine ⟨g, e, lt_of_block hh, hc _ _ ?_, hc _ _ ?_, hc _ _ ?_⟩
    · rw [nv_at _ j 1 hj (by omega)]; rfl
    · rw [nv_at _ j 2 hj (by omega)]; rfl
    · rw [nv_at _ j 3 hj (by omega)]; rfl
set_option maxRecDepth 20000 in
set_option maxHeartbeats 2000000 in
theorem match14 (A : Option Addr) (n c : Nat) (A1 : Option Addr) (c1 base : Nat) (l : List ByteArray) (what : ByteArray) (kd : Int) (w : World) (hl : l.length = n) (hn : n ≤ 4096) (hN : Nts w base (.slice A n c) l) (hr : Rd w w.heap.size A1 (sv l)) :
    Calls Tryz.prog 14 #[.agg #[.slice A n c, .string { data := #[] }, .nilIface, .pointer none, .string what, .bool false, .int .u8 kd, .int .u8 0], .int .u8 kd, .string what, .slice A1 n c1] w fun e w' => e = .returned (.bool true) ∧ Below w.heap.size w w' := by
  have HN := Lib.hid hN; have HR := Lib.hid hr; have HL := Lib.hid hl
  clear hN hr hl
  have e1 : (kd != kd) = false := by simp
  have e2 : (what.toList == what.toList) = true := by simp
  go_enter Tryz.func14, Tryz.ntmps14
  go_wp2_with (fail)
  have hb0 : Below w.heap.size w (w.alloc (.cells #[.slice A n c, .string { data := #[] }, .nilIface, .pointer none, .string what, .bool false, .int .u8 kd, .int .u8 0] 48)) := (Below.refl _ _).alloc (Nat.le_refl _) _
  have HB0 := Lib.hid hb0
  have HN0 : Hid (Nts (w.alloc (.cells #[.slice A n c, .string { data := #[] }, .nilIface, .pointer none, .string what, .bool false, .int .u8 kd, .int .u8 0] 48)) base (.slice A n c) l) := Lib.hid (World.ownsRow.alloc HN.out _)
  have HR0 := Lib.hid (HR.out.below hb0)
  have m0 : (w.alloc (.cells #[.slice A n c, .string { data := #[] }, .nilIface, .pointer none, .string what, .bool false, .int .u8 kd, .int .u8 0] 48)).cell? ⟨w.heap.size, 0, none⟩ = some (.slice A n c) := by
    have h0 := heap_alloc_new w (.cells #[.slice A n c, .string { data := #[] }, .nilIface, .pointer none, .string what, .bool false, .int .u8 kd, .int .u8 0] 48)
    unfold World.cell?
    rw [h0]
    rfl
  clear hb0 HN HR
  generalize w.alloc (.cells #[.slice A n c, .string { data := #[] }, .nilIface, .pointer none, .string what, .bool false, .int .u8 kd, .int .u8 0] 48) = w6 at HB0 HN0 HR0 m0 ⊢
  go_loopw [9] (fun i wr => ∃ k q : Nat, k ≤ n ∧ i = .int .i64 k ∧ wr = w6.drewN q) (fun i _ => n - (intOf i).toNat)
  case atStart => exact ⟨0, 0, by omega, rfl, rfl⟩
  case round =>
    obtain ⟨k, q, hk, rfl, rfl⟩ := hrel
    by_cases hlt : k < n
    · have hkl : k < l.length := by rw [HL.out]; exact hlt
      obtain ⟨x, rfl, hxb, cx⟩ := HR0.out.at_ (sv_at l k hkl)
      obtain ⟨g, rfl, hgl, g1, g2, g3⟩ := nts_at HN0.out hkl
      obtain ⟨s, hs⟩ : ∃ s, s = l[k] := ⟨_, rfl⟩
      rw [← hs] at cx g2
      have e3 : (s.toList == s.toList) = true := by simp
      clear hs
      have e4 : (s.toList != s.toList) = false := by simp
      have e5 : (!s.toList == s.toList) = false := by simp
      go_wp2
      go_quiet (fail)
      go_wp2
      go_roundw
      case rel => exact ⟨k + 1, _, by omega, by go_num, rfl⟩
      case measure => simp [intOf]; omega
    · obtain rfl : k = n := by omega
      go_wp2
      go_ret
      exact ⟨rfl, below_draws HB0.out q⟩
end Go.Proofs.YtlmkgghfnfhojaaGreatDoor.Fde
