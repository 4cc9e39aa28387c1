/- The walk of the law FnIsSlashAgreesWithOneBytePathPattern: for every byte it returns true. No condition. -/
import Derived.Test.YtlhdihdlkejjdaaFmtDfH
namespace Go.Proofs.YtlhdihdlkejjdaaFmt.fnIsSlashAgreesWithOneBytePathPattern
open Go.RowKit Go.Deep Go.Proofs.YtlhdihdlkejjdaaFmt.Base Go.Proofs.YtlhdihdlkejjdaaFmt.Sls Go.Proofs.YtlhdihdlkejjdaaFmt.DfA Go.Proofs.YtlhdihdlkejjdaaFmt.DfF Go.Proofs.YtlhdihdlkejjdaaFmt.DfG Go.Proofs.YtlhdihdlkejjdaaFmt.DfH
set_option linter.unusedVariables false
theorem one (s : ByteArray) (c : Int) (hn : s.size = 1) (h0 : byteAt s 0 = c) : okN s = (sl c || (c == 46)) := by
  have h1 : byteAt s 1 = 0 := by unfold byteAt; rw [dif_neg (by omega)]
  have h2 : byteAt s 2 = 0 := by unfold byteAt; rw [dif_neg (by omega)]
  unfold okN
  rw [h0, h1, h2, hn]
  unfold V
  rw [show sl 0 = false from rfl]
  cases (c == 46) <;> cases sl c <;> simp
set_option maxRecDepth 20000 in
set_option maxHeartbeats 2000000 in
theorem walk (a0 : Int) (w : World) (w0 : (Lit.int .u8 a0).wf = true) :
    Calls Tryf.prog 3 #[.int .u8 a0] w fun e w' => e = .returned (.bool true) ∧ Below w.heap.size w w' := by
  obtain ⟨c, rfl⟩ : ∃ c : UInt8, a0 = (c.toNat : Int) := by
    have hm0 : IntKind.min .u8 = 0 := by decide
    have hm1 : IntKind.max .u8 = 255 := by decide
    have := w0
    simp [Lit.wf, hm0, hm1] at this
    refine ⟨UInt8.ofNat a0.toNat, ?_⟩
    have h2 : a0.toNat < 256 := by omega
    rw [UInt8.toNat_ofNat_of_lt' h2]
    omega
  clear w0
  have hconv : (convert 25 9 (.slice (some ⟨w.heap.size, 0, none⟩) 1 1)).run Tryf.prog (w.alloc (.cells #[.int .u8 (c.toNat : Int)] 5)) = .ok (.string ⟨#[c]⟩) (w.alloc (.cells #[.int .u8 (c.toNat : Int)] 5)) := by
    refine run_convert_bytes_back (P := Tryf.prog) (w.alloc (.cells #[.int .u8 (c.toNat : Int)] 5)) 25 9 5 ⟨w.heap.size, 0, none⟩ 1 [c] Tryf.underlying25 Tryf.underlying5 Tryf.underlying9 (fun j hj => ?_)
    have : j = 0 := by simp at hj; omega
    subst this
    simp [Addr.add]
  have Z := Lib.hid (fun w' => zz6 ⟨#[c]⟩ w' (by show 1 ≤ 1048576; omega))
  have e1 : okN ⟨#[c]⟩ = (sl (c.toNat : Int) || ((c.toNat : Int) == 46)) := one _ _ rfl rfl
  obtain ⟨g1, hg1⟩ : ∃ b, sl (c.toNat : Int) = b := ⟨_, rfl⟩
  obtain ⟨g2, hg2⟩ : ∃ b, ((c.toNat : Int) == 46) = b := ⟨_, rfl⟩
  obtain ⟨ob, hob⟩ : ∃ ob, ob = okN ⟨#[c]⟩ := ⟨_, rfl⟩
  rw [← hob] at Z
  rw [hg1, hg2, ← hob] at e1
  have S7 := Lib.hid (fun w' => slash7 (c.toNat : Int) w')
  rw [hg1] at S7
  clear hob hg1
  have HE := Lib.hid e1
  clear e1
  go_enter Tryf.func3, Tryf.ntmps3
  cases g1
  all_goals cases g2
  all_goals
    have e1 := HE.out
    subst e1
    go_wp2_with (first | (go_at_call 6; refine (Z.out _).mono ?_; rintro e w7 ⟨⟨n7, p7, rfl⟩, hb7⟩; have HB7 := Lib.hid hb7; clear hb7) | (go_at_call 7; refine (S7.out _).mono ?_; rintro e w8 ⟨rfl, rfl⟩) | fail)
    go_ret
    exact ⟨rfl, ((Below.refl w.heap.size w).alloc (Nat.le_refl _) _).trans (HB7.out.mono (by simp))⟩
end Go.Proofs.YtlhdihdlkejjdaaFmt.fnIsSlashAgreesWithOneBytePathPattern
