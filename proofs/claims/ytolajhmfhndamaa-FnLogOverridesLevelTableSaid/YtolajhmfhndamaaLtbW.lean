/- The walk of the law FnLogOverridesLevelTable: for every key it returns true. No condition. -/
import Derived.Test.YtolajhmfhndamaaLoG
namespace Go.Proofs.Ytolajhmfhndamaa.fnLogOverridesLevelTable
open Go.RowKit Go.Maps Go.ChangeMaps Go.MapKept Go.Proofs.Ytolajhmfhndamaa.Base Go.Proofs.Ytolajhmfhndamaa.Sls Go.Proofs.Ytolajhmfhndamaa.Mps Go.Proofs.Ytolajhmfhndamaa.LoA Go.Proofs.Ytolajhmfhndamaa.LoF Go.Proofs.Ytolajhmfhndamaa.LoG
set_option linter.unusedVariables false
set_option maxRecDepth 100000 in
set_option maxHeartbeats 4000000 in
theorem main (key : ByteArray) (w : World) (hk : key.size ≤ 1048576) (hy : Calls Try.prog 8 #[.string key] w (Bd True w)) :
    Calls Try.prog 4 #[.string key] w fun e w' => e = .returned (.bool true) ∧ Below w.heap.size w w' := by
  have hmm := @run_makeMap Try.prog
  have hnl := fun (W : World) (r : Option Nat) => run_eql_map_nil (P := Try.prog) W 28 5 32 r Try.underlying28
  have HY := Lib.hid hy
  have HKM := Lib.hid (WideMaps.keyOf_string_mk Try.underlying9 (s := key) (by unfold maxLen; omega))
  clear hy
  go_enter Try.func4, Try.ntmps4
  go_wp2_with (fail)
  refine HY.out.mono ?_
  rintro e w1 ⟨b1, rfl, _, rfl⟩
  go_wp2_with (fail)
  · go_ret
    exact ⟨rfl, Below.refl _ _⟩
  refine (none7 w.heap.size 0 (w.alloc (.map #[] 0)) (World.ownsMap_made w Try.prog 9 self)).mono ?_
  rintro e w2 ⟨DE, mE, rfl, oE, sE, bE⟩
  have BE := Lib.hid (((Below.refl w.heap.size w).alloc (Nat.le_refl _) (.map #[] 0)).trans (bE.mono (by simp only [World.size_alloc]; omega)))
  have lE := oE.len Try.underlying28 3
  rw [sE, World.size_alloc] at lE
  clear oE sE bE
  go_wp2_with (refine wpList_insert_own _ rfl _ _ _ 26 rfl 9 27 law9 Try.underlying26 self w2.heap.size 0 (.map []) rfl (World.ownsMap_made w2 Try.prog 9 self) (by unfold maxLen; omega) (.string key) (.int .u8 0) (kl key) rfl rfl HKM.out (.held (.int .u8 0)) [] rfl ?_; intro w3 hout3 hg3; have HO3 := Lib.hid hout3; have HG3 := Lib.hid hg3; clear hout3 hg3)
  refine (one7 key 0 w2.heap.size _ w3 HO3.out (by decide) (by decide)).mono ?_
  rintro e w4 ⟨DB, mB, rfl, oB, kB, bB⟩
  have BW4 : Hid (Below w.heap.size w w4) := Lib.hid (below_join ((BE.out.alloc BE.out.size (.map #[] 0)).grown HG3.out (by simp only [World.size_alloc]; exact Nat.le_succ_of_le BE.out.size) (fun q e => by have := Option.some.inj e; have := BE.out.size; omega)) (Nat.le_trans (Nat.le_trans BE.out.size (Nat.le_succ _)) (by have := HG3.out.size; rw [World.size_alloc] at this; exact this)) bB)
  have OB := Lib.hid oB; have KB := Lib.hid kB
  have hb4 : w3.heap.size < w4.heap.size := oB.lt
  have hwb := Lib.hid (show w.heap.size ≤ w3.heap.size from Nat.le_trans (Nat.le_trans BE.out.size (Nat.le_succ _)) (by have := HG3.out.size; rw [World.size_alloc] at this; exact this))
  clear oB kB bB lE
  go_wp2_with (fail)
  go_loopw [5] (fun i wr => ∃ v : Nat, v ≤ 6 ∧ i = .int .u8 v ∧ Hid (OM wr w3.heap.size mB DB) ∧ Below w.heap.size w wr) (fun i _ => 6 - (intOf i).toNat)
  case atStart => exact ⟨0, by omega, rfl, OB, BW4.out⟩
  case round =>
  obtain ⟨v, hv, rfl, HOB, hbel⟩ := hrel
  by_cases hlt : v < 6
  · have v5 : (v : Int) ≤ 5 := by omega
    have HBEL := Lib.hid hbel
    have hbw := HOB.out.lt
    have hws := hbel.size
    clear hbel
    go_wp2_with (refine wpList_insert_own _ rfl _ _ _ 26 rfl 9 27 law9 Try.underlying26 self wr.heap.size 0 (.map []) rfl (World.ownsMap_made wr Try.prog 9 self) (by unfold maxLen; omega) (.string key) (.int .u8 v) (kl key) rfl rfl HKM.out (.held (.int .u8 v)) [] rfl ?_; intro w5 hout5 hg5; have HO5 := Lib.hid hout5; have HG5 := Lib.hid hg5; clear hout5 hg5)
    refine (one7 key v wr.heap.size _ w5 HO5.out (by omega) (by omega)).mono ?_
    rintro e w6 ⟨DO, mO, rfl, oO, kO, bO⟩
    have hz5 : wr.heap.size + 1 ≤ w5.heap.size := by have := HG5.out.size; rw [World.size_alloc] at this; exact this
    have BW6 := Lib.hid (below_join ((HBEL.out.alloc HBEL.out.size (.map #[] 0)).grown HG5.out (by simp only [World.size_alloc]; omega) (fun q e => by have := Option.some.inj e; omega)) (by omega) bO)
    have OB6 : Hid (OM w6 w3.heap.size mB DB) := Lib.hid (by
      have h1 : OM (wr.alloc (.map #[] 0)) w3.heap.size mB DB := HOB.out.alloc _
      have h2 : OM w5 w3.heap.size mB DB := h1.kept HG5.out (by intro e; have := Option.some.inj e; omega)
      obtain ⟨es, clock, h3, h4⟩ := h2
      exact ⟨es, clock, (bO.block w3.heap.size (by omega)).trans h3, h4⟩)
    have e1 := oO.len Try.underlying28 3
    have e2 := OB6.out.len Try.underlying28 3
    rw [same_size kO KB.out] at e1
    obtain ⟨sz, hsz⟩ : ∃ sz : Nat, sz = Maps.size DB := ⟨_, rfl⟩
    rw [← hsz] at e1 e2
    have OO := Lib.hid oO; have KO := Lib.hid kO
    have L9 := Lib.hid (fun w' => level9 v w' (by omega) (by omega))
    clear hsz oO kO bO
    go_wp2_with (fail)
    clear e1 e2
    go_loop [7] (fun i => ∃ x : Nat, x ≤ 256 ∧ i = .int .i64 x) (fun i => 256 - (intOf i).toNat)
    case atStart => exact ⟨0, by omega, rfl⟩
    case round =>
    obtain ⟨x, hx, rfl⟩ := hrel
    by_cases hx2 : x < 256
    · have x3 : (x : Int) < 256 := by omega
      have x4 : (0 : Int) ≤ (x : Int) := by omega
      by_cases hin : (x : Int) ∈ ids key
      · have q1 := look_in OO.out KO.out (x := (x : Int)) (by omega) (by omega) hin
        have q2 := look_in OB6.out KB.out (x := (x : Int)) (by omega) (by omega) hin
        clear hin
        go_wp2_with (first | (go_at_call 9; refine (L9.out _).mono ?_; rintro e w7 ⟨rfl, rfl⟩) | fail)
        exact ⟨⟨x + 1, by omega, by go_num⟩, by simp [intOf]; omega⟩
      · obtain ⟨u1, q1⟩ := look_out OO.out KO.out (x := (x : Int)) (by omega) (by omega) hin
        obtain ⟨u2, q2⟩ := look_out OB6.out KB.out (x := (x : Int)) (by omega) (by omega) hin
        clear hin
        go_wp2
        exact ⟨⟨x + 1, by omega, by go_num⟩, by simp [intOf]; omega⟩
    · obtain rfl : x = 256 := by omega
      go_wp2
      exact ⟨⟨v + 1, by omega, by go_num, OB6, BW6.out⟩, by simp [intOf]; omega⟩
  · obtain rfl : v = 6 := by omega
    have HBEL := Lib.hid hbel
    clear hbel
    go_wp2
    go_ret
    exact ⟨rfl, HBEL.out⟩
set_option maxRecDepth 20000 in
theorem walk (a0 : ByteArray) (w : World) (w0 : a0.size ≤ maxLen) :
    Calls Try.prog 4 #[.string a0] w fun e w' => e = .returned (.bool true) ∧ Below w.heap.size w w' := by
  have hy := bytes_any a0 w w0
  by_cases hz : a0.size ≤ 1048576
  · exact main a0 w hz (hy.mono fun e w' h => by
      obtain ⟨b, h1, _, h3⟩ := h
      exact ⟨b, h1, fun _ => trivial, h3⟩)
  · have H := Lib.hid hy
    have HZ := Lib.hid hz
    clear hy hz
    go_enter Try.func4, Try.ntmps4
    go_wp2_with fail
    refine H.out.mono ?_
    rintro e w' ⟨b, rfl, hb, rfl⟩
    cases b
    · clear hb
      go_wp2
      go_ret
      exact ⟨rfl, Below.refl _ _⟩
    · exact absurd (hb rfl) HZ.out
end Go.Proofs.Ytolajhmfhndamaa.fnLogOverridesLevelTable
