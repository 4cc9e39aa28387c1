/- The walk of the law FnOutputExtensionsUnknownKeyCostsErrors: for all keys and values it returns true. No condition. -/
import Derived.Test.YtfjiejndnbnkfaaFmtOeE
import Derived.Deep.QuietTactic
import Derived.BigQuiet
import Derived.Deep.RegionHeld3
import Derived.Deep.RegionWith
import Derived.Deep.OwnRows
import Derived.Laws.MakeOwn
namespace Go.Proofs.YtfjiejndnbnkfaaFmt.fnOutputExtensionsUnknownKeyCostsErrors
open Go.RowKit Go.Deep Go.Maps Go.ChangeMaps Go.MapKept Go.Proofs.YtfjiejndnbnkfaaFmt.Base Go.Proofs.YtfjiejndnbnkfaaFmt.Sls Go.Proofs.YtfjiejndnbnkfaaFmt.Mps Go.Proofs.YtfjiejndnbnkfaaFmt.Wsum Go.Proofs.YtfjiejndnbnkfaaFmt.Lk Go.Proofs.YtfjiejndnbnkfaaFmt.Lm Go.Proofs.YtfjiejndnbnkfaaFmt.Ln Go.Proofs.YtfjiejndnbnkfaaFmt.OeA Go.Proofs.YtfjiejndnbnkfaaFmt.OeB Go.Proofs.YtfjiejndnbnkfaaFmt.OeC Go.Proofs.YtfjiejndnbnkfaaFmt.OeD Go.Proofs.YtfjiejndnbnkfaaFmt.OeE
set_option linter.unusedVariables false
theorem make26n (n : Nat) (w : World) : (Instr.makeMap 26 (some (.int .i64 (n : Int)))).run Tryf.prog w = .ok (.map (some w.heap.size)) (w.alloc (.map #[] 0)) := by kernel_rfl
theorem make26s (n : Nat) (w : World) : (Instr.makeMap 26 (some (.int .i64 ((n : Int) + 1)))).run Tryf.prog w = .ok (.map (some w.heap.size)) (w.alloc (.map #[] 0)) := by kernel_rfl
set_option maxRecDepth 100000 in
set_option maxHeartbeats 4000000 in
theorem main (A0 A1 : Option Addr) (len0 cap0 len1 cap1 : Nat) (l0 l1 : List ByteArray) (x2 x3 : ByteArray) (w : World) (n : Nat) (hn : n = min len0 len1) (L0 : l0.length = len0) (L1 : l1.length = len1) (h0 : len0 ≤ 4096) (h1 : len1 ≤ 4096) (r0 : Rd w w.heap.size A0 (sv l0)) (r1 : Rd w w.heap.size A1 (sv l1)) (m0 : ∀ s ∈ l0, s.size ≤ 1048576) (m1 : ∀ s ∈ l1, s.size ≤ 1048576) (hx2 : x2.size ≤ 1048576) (hx3 : x3.size ≤ 1048576)
    (hy : Calls Tryf.prog 4 #[.slice A0 len0 cap0, .slice A1 len1 cap1, .string x2, .string x3] w (Bd True w)) :
    Calls Tryf.prog 3 #[.slice A0 len0 cap0, .slice A1 len1 cap1, .string x2, .string x3] w fun e w' => e = .returned (.bool true) ∧ Below w.heap.size w w' := by
  have hmm := make26n
  have hms := make26s
  have HY := Lib.hid hy
  have B6 := Lib.hid (bytes5 A0 len0 cap0 l0 w L0 h0 r0 m0)
  have C6 := Lib.hid (bytes5 A1 len1 cap1 l1 w L1 h1 r1 m1)
  have MN := Lib.hid (min6 A0 len0 cap0 A1 len1 cap1 w)
  have R0 := Lib.hid r0; have R1 := Lib.hid r1; have HL0 := Lib.hid L0; have HL1 := Lib.hid L1; have M0 := Lib.hid m0; have M1' := Lib.hid m1
  have hn0 : n ≤ len0 := by omega
  have hn1 : n ≤ len1 := by omega
  have KC : Hid (∀ (wx : World) k, Below w.heap.size w wx → k < n → ∃ x, A0 = some x ∧ x.block < w.heap.size ∧ wx.cell? (x.add k) = some (.string (kf l0 k)) ∧ (kf l0 k).size ≤ 1048576) := Lib.hid fun wx k hb hk => by
    obtain ⟨x, hx, hxb, cx⟩ := (r0.below hb).at_ (sv_at l0 k (by omega))
    rw [← kf_at l0 k (by omega)] at cx
    exact ⟨x, hx, hxb, cx, by rw [kf_at l0 k (by omega)]; exact m0 _ (List.getElem_mem (by omega))⟩
  have VC : Hid (∀ (wx : World) k, Below w.heap.size w wx → k < n → ∃ x, A1 = some x ∧ x.block < w.heap.size ∧ wx.cell? (x.add k) = some (.string (kf l1 k)) ∧ (kf l1 k).size ≤ 1048576) := Lib.hid fun wx k hb hk => by
    obtain ⟨x, hx, hxb, cx⟩ := (r1.below hb).at_ (sv_at l1 k (by omega))
    rw [← kf_at l1 k (by omega)] at cx
    exact ⟨x, hx, hxb, cx, by rw [kf_at l1 k (by omega)]; exact m1 _ (List.getElem_mem (by omega))⟩
  have GV : Hid (∀ i, i < n → (kf l1 i).size ≤ maxLen) := Lib.hid fun i hi => by
    rw [kf_at l1 i (by omega)]
    have := m1 _ (List.getElem_mem (show i < l1.length by omega))
    unfold maxLen; omega
  have HN : Hid (n = min len0 len1) := Lib.hid hn
  rw [← hn] at MN
  clear hy r0 r1 L0 L1 m0 m1 hn
  go_enter Tryf.func3, Tryf.ntmps3
  go_wp2_with (fail)
  refine HY.out.mono ?_
  rintro e w1 ⟨b1, rfl, _, rfl⟩
  cases b1
  · go_wp2
    go_ret
    exact ⟨rfl, Below.refl _ _⟩
  go_wp2_with (fail)
  refine B6.out.mono ?_
  rintro e w1 ⟨⟨t1, rfl, t10, t11⟩, rfl⟩
  go_wp2_with (fail)
  refine C6.out.mono ?_
  rintro e w1 ⟨⟨t2, rfl, t20, t21⟩, rfl⟩
  by_cases hx : x2 = JS
  · subst hx
    unfold JS
    go_wp2_with (fail)
    all_goals
      go_ret
      exact ⟨rfl, Below.refl _ _⟩
  by_cases hx' : x2 = CSS
  · subst hx'
    unfold CSS
    go_wp2_with (fail)
    all_goals
      go_ret
      exact ⟨rfl, Below.refl _ _⟩
  have q1 : (x2.toList == [46, 106, 115]) = false := by
    rw [Lib.toList_data, beq_eq_false_iff_ne]
    intro e
    exact hx (ext_list e)
  have q2 : (x2.toList == [46, 99, 115, 115]) = false := by
    rw [Lib.toList_data, beq_eq_false_iff_ne]
    intro e
    exact hx' (ext_list e)
  have HX := Lib.hid (And.intro hx hx')
  clear hx hx'
  go_wp2_with (fail)
  · go_ret
    exact ⟨rfl, Below.refl _ _⟩
  refine MN.out.mono ?_
  rintro e w1 ⟨rfl, rfl⟩
  by_cases hlen : len1 < len0
  · obtain rfl : n = len1 := by have := HN.out; omega
    have hlen' : (n : Int) < (len0 : Int) := by omega
    go_wp2_with (fail)
    clear hlen hlen' HN
    go_loop [10] (fun i => ∃ k : Nat, k ≤ n ∧ i = .int .i64 k ∧ Hid (∀ j, j < k → kf l0 j ≠ x2)) (fun i => n - (intOf i).toNat)
    case atStart => exact ⟨0, by omega, rfl, Lib.hid (fun j h => absurd h (Nat.not_lt_zero _))⟩
    case round =>
    obtain ⟨k, hk, rfl, HF⟩ := hrel
    by_cases hkn : k < n
    · obtain ⟨x, rfl, hxb, cx, zx⟩ := KC.out w k (Below.refl _ _) hkn
      have kn : (k : Int) < (len0 : Int) := by omega
      have kn2 : (k : Int) < (n : Int) := by omega
      obtain ⟨ss, hss⟩ : ∃ ss, ss = kf l0 k := ⟨_, rfl⟩
      rw [← hss] at cx zx
      have HH := Lib.hid hss
      clear hss
      by_cases h5 : ss = x2
      · have h6 : (ss.toList == x2.toList) = true := by rw [eq_toList]; simp [h5]
        clear h5
        go_wp2
        go_ret
        exact ⟨rfl, Below.refl _ _⟩
      · have h6 : (ss.toList == x2.toList) = false := by rw [eq_toList]; simp [h5]
        have H5 := Lib.hid h5
        clear h5
        go_wp2
        go_round
        case rel => exact ⟨k + 1, by omega, by go_num, Lib.hid (fun j h => by
          rcases Nat.lt_or_ge j k with g | g
          · exact HF.out j g
          · obtain rfl : j = k := by omega
            rw [← HH.out]; exact H5.out)⟩
        case measure => simp [intOf]; omega
    have hke : k = n := by omega
    rw [hke] at HF ⊢
    clear hke hkn hk
    have hno : Hid (Maps.has (Dm (kf l0) (kf l1) n) (kl x2) = false) := Lib.hid (by
      rw [← Bool.not_eq_true]
      intro h
      obtain ⟨i, hi, h⟩ := Dm_has n x2 h
      exact HF.out i hi h)
    clear HF
    go_wp2
    have M1 : Hid (MD ((w.alloc (.map #[] 0)).alloc (.map #[] 0)) w.heap.size 0 (Dm (kf l0) (kf l1) 0)) := Lib.hid ((World.ownsMap_made w Tryf.prog 9 self).alloc _)
    have M2 : Hid (MD ((w.alloc (.map #[] 0)).alloc (.map #[] 0)) (w.heap.size + 1) 0 (Dm (kf l0) (kf l1) 0)) := Lib.hid (by have := World.ownsMap_made (w.alloc (.map #[] 0)) Tryf.prog 9 self; rw [World.size_alloc] at this; exact this)
    go_loopw [13] (fun i wr => ∃ k : Nat, k ≤ n ∧ i = .int .i64 k ∧ Hid (MD wr w.heap.size k (Dm (kf l0) (kf l1) k)) ∧ Hid (MD wr (w.heap.size + 1) k (Dm (kf l0) (kf l1) k)) ∧ Below w.heap.size w wr) (fun i _ => n - (intOf i).toNat)
    case atStart => exact ⟨0, by omega, rfl, M1, M2, ((Below.refl _ _).alloc (Nat.le_refl _) _).alloc (by simp) _⟩
    case round =>
    obtain ⟨k, hk, rfl, HM, HM2, hbel⟩ := hrel
    by_cases hkn : k < n
    · obtain ⟨x, rfl, hxb, cx, zx⟩ := KC.out wr k hbel hkn
      obtain ⟨y, rfl, hyb, cy, zy⟩ := VC.out wr k hbel hkn
      have kn : (k : Int) < (len0 : Int) := by omega
      have kn1 : (k : Int) < (n : Int) := by omega
      have kn2 : (k : Int) < (n : Int) := by omega
      obtain ⟨ss, hss⟩ : ∃ ss, ss = kf l0 k := ⟨_, rfl⟩
      obtain ⟨vv, hvv⟩ : ∃ vv, vv = kf l1 k := ⟨_, rfl⟩
      rw [← hss] at cx zx
      rw [← hvv] at cy zy
      obtain ⟨w5, hrun, ho5, hg5⟩ := (md_drew HM.out).update (val := .string vv) law9 Tryf.underlying26 (by unfold maxLen; omega) (key_mk ss (by unfold maxLen; omega)) (d := .held (.string vv)) (ps := []) rfl
      have hws := hbel.size
      have hb2 := HM2.out.lt
      have hne : ∀ q : Nat, q ≠ w.heap.size → some q ≠ some w.heap.size := fun q hq e => hq (Option.some.inj e)
      have e5 : ∀ q, q < wr.heap.size → q ≠ w.heap.size → w5.heap[q]? = wr.heap[q]? := fun q hq h => hg5.block q hq (hne q h)
      have cx5 : w5.cell? (x.add k) = some (.string ss) := by rw [← cx]; exact World.cell?_of_block (e5 _ (by rw [Sls.add_block]; omega) (by rw [Sls.add_block]; omega))
      have cy5 : w5.cell? (y.add k) = some (.string vv) := by rw [← cy]; exact World.cell?_of_block (e5 _ (by rw [Sls.add_block]; omega) (by rw [Sls.add_block]; omega))
      have hz5 : wr.heap.size ≤ w5.heap.size := hg5.size
      have N5 : Hid (MD w5 w.heap.size (k + 1) (Dm (kf l0) (kf l1) (k + 1))) := Lib.hid (by unfold Dm; rw [← hss, ← hvv]; exact ho5)
      have P5 : Hid (MD w5 (w.heap.size + 1) k (Dm (kf l0) (kf l1) k)) := Lib.hid (md_to HM2.out (e5 _ hb2 (by omega)))
      have B5 := Lib.hid (hbel.drew.grown hg5 (show w.heap.size ≤ wr.drew.heap.size from hws) (fun q e => by have := Option.some.inj e; omega))
      obtain ⟨w6, hrun6, ho6, hg6⟩ := (md_drew P5.out).update (val := .string vv) law9 Tryf.underlying26 (by unfold maxLen; omega) (key_mk ss (by unfold maxLen; omega)) (d := .held (.string vv)) (ps := []) rfl
      have e6 : ∀ q, q < w5.heap.size → q ≠ w.heap.size + 1 → w6.heap[q]? = w5.heap[q]? := fun q hq h => hg6.block q hq (fun e => h (Option.some.inj e))
      have cx6 : w6.cell? (x.add k) = some (.string ss) := by rw [← cx5]; exact World.cell?_of_block (e6 _ (by rw [Sls.add_block]; omega) (by rw [Sls.add_block]; omega))
      have cy6 : w6.cell? (y.add k) = some (.string vv) := by rw [← cy5]; exact World.cell?_of_block (e6 _ (by rw [Sls.add_block]; omega) (by rw [Sls.add_block]; omega))
      have N6 : Hid (MD w6 w.heap.size (k + 1) (Dm (kf l0) (kf l1) (k + 1))) := Lib.hid (md_to N5.out (e6 _ (by omega) (by omega)))
      have P6 : Hid (MD w6 (w.heap.size + 1) (k + 1) (Dm (kf l0) (kf l1) (k + 1))) := Lib.hid (by show MD w6 (w.heap.size + 1) (k + 1) ((Dm (kf l0) (kf l1) k).put (kl (kf l0 k)) (.held (.string (kf l1 k)))); rw [← hss, ← hvv]; exact ho6)
      have B6 := Lib.hid (B5.out.drew.grown hg6 (show w.heap.size ≤ w5.drew.heap.size by show w.heap.size ≤ w5.heap.size; omega) (fun q e => by have := Option.some.inj e; omega))
      clear ho5 hg5 hss hvv hbel ho6 hg6 e5 e6 hne
      go_upto_region 20 with (fail)
      refine wp_region_held_drew (S := fun w' => w'.cell? (x.add k) = some (.string ss) ∧ w'.cell? (y.add k) = some (.string vv)) (by kernel_rfl) ⟨by assumption, by assumption⟩ (fun hHeld => ?_)
      refine wpAnyH_take (i := 0) (oi := { dst := some 77, op := Op.move (Operand.tmp 11), type := 26, pos := "laws_pkg_api_b1.go:61", after := #[], guard := none }) (v := ?_) rfl (by kernel_rfl) (by kernel_rfl) (by kernel_rfl) (fun _ _ _ h => h) (Or.inl ⟨by rfl, ?_⟩) (by assumption) ?_
      rotate_left
      · intro wq hSw
        obtain ⟨q1, q2⟩ := hSw
        go_simp
        try (with_reducible rfl)
      try go_frame
      refine wpAnyH_take (i := 1) (oi := { dst := some 78, op := Op.move (Operand.tmp 0), type := 22, pos := "laws_pkg_api_b1.go:61", after := #[], guard := none }) (v := ?_) rfl (by kernel_rfl) (by kernel_rfl) (by kernel_rfl) (fun _ _ _ h => h) (Or.inl ⟨by rfl, ?_⟩) (by assumption) ?_
      rotate_left
      · intro wq hSw
        obtain ⟨q1, q2⟩ := hSw
        go_simp
        try (with_reducible rfl)
      try go_frame
      refine wpAnyH_take (i := 2) (oi := { dst := some 79, op := Op.move (Operand.tmp 13), type := 3, pos := "laws_pkg_api_b1.go:61", after := #[], guard := none }) (v := ?_) rfl (by kernel_rfl) (by kernel_rfl) (by kernel_rfl) (fun _ _ _ h => h) (Or.inl ⟨by rfl, ?_⟩) (by assumption) ?_
      rotate_left
      · intro wq hSw
        obtain ⟨q1, q2⟩ := hSw
        go_simp
        try (with_reducible rfl)
      try go_frame
      refine wpAnyH_take (i := 3) (oi := { dst := some 80, op := Op.indexAddr 22 (Operand.tmp 78) (Operand.tmp 79), type := 0, pos := "laws_pkg_api_b1.go:61", after := #[{ on := 1, ground := Ground.data }, { on := 2, ground := Ground.data }], guard := none }) (v := ?_) rfl (by kernel_rfl) (by kernel_rfl) (by kernel_rfl) (fun _ _ _ h => h) (Or.inl ⟨by rfl, ?_⟩) (by assumption) ?_
      rotate_left
      · intro wq hSw
        obtain ⟨q1, q2⟩ := hSw
        go_simp
        try (with_reducible rfl)
      try go_frame
      refine wpAnyH_take (i := 4) (oi := { dst := some 81, op := Op.load 9 (Operand.tmp 80), type := 9, pos := "laws_pkg_api_b1.go:61", after := #[{ on := 3, ground := Ground.data }], guard := none }) (v := ?_) rfl (by kernel_rfl) (by kernel_rfl) (by kernel_rfl) (fun _ _ _ h => h) (Or.inl ⟨by rfl, ?_⟩) (by assumption) ?_
      rotate_left
      · intro wq hSw
        obtain ⟨q1, q2⟩ := hSw
        go_simp
        try (with_reducible rfl)
      try go_frame
      refine wpAnyH_take (i := 5) (oi := { dst := some 82, op := Op.move (Operand.tmp 1), type := 22, pos := "laws_pkg_api_b1.go:61", after := #[], guard := none }) (v := ?_) rfl (by kernel_rfl) (by kernel_rfl) (by kernel_rfl) (fun _ _ _ h => h) (Or.inl ⟨by rfl, ?_⟩) (by assumption) ?_
      rotate_left
      · intro wq hSw
        obtain ⟨q1, q2⟩ := hSw
        go_simp
        try (with_reducible rfl)
      try go_frame
      refine wpAnyH_take (i := 6) (oi := { dst := some 83, op := Op.move (Operand.tmp 13), type := 3, pos := "laws_pkg_api_b1.go:61", after := #[], guard := none }) (v := ?_) rfl (by kernel_rfl) (by kernel_rfl) (by kernel_rfl) (fun _ _ _ h => h) (Or.inl ⟨by rfl, ?_⟩) (by assumption) ?_
      rotate_left
      · intro wq hSw
        obtain ⟨q1, q2⟩ := hSw
        go_simp
        try (with_reducible rfl)
      try go_frame
      refine wpAnyH_take (i := 7) (oi := { dst := some 84, op := Op.indexAddr 22 (Operand.tmp 82) (Operand.tmp 83), type := 0, pos := "laws_pkg_api_b1.go:61", after := #[{ on := 5, ground := Ground.data }, { on := 6, ground := Ground.data }], guard := none }) (v := ?_) rfl (by kernel_rfl) (by kernel_rfl) (by kernel_rfl) (fun _ _ _ h => h) (Or.inl ⟨by rfl, ?_⟩) (by assumption) ?_
      rotate_left
      · intro wq hSw
        obtain ⟨q1, q2⟩ := hSw
        go_simp
        try (with_reducible rfl)
      try go_frame
      refine wpAnyH_take (i := 8) (oi := { dst := some 85, op := Op.load 9 (Operand.tmp 84), type := 9, pos := "laws_pkg_api_b1.go:61", after := #[{ on := 7, ground := Ground.data }], guard := none }) (v := ?_) rfl (by kernel_rfl) (by kernel_rfl) (by kernel_rfl) (fun _ _ _ h => h) (Or.inl ⟨by rfl, ?_⟩) (by assumption) ?_
      rotate_left
      · intro wq hSw
        obtain ⟨q1, q2⟩ := hSw
        go_simp
        try (with_reducible rfl)
      try go_frame
      refine wpAnyH_ready (rs := [9]) (by kernel_rfl) (by simp) ?_
      refine AllReadyH.cons rfl (fun K hK => ?_) AllReadyH.nil
      go_simp
      refine hK.out _ _ ⟨cx5, cy5⟩ (fun hHeld => ?_)
      clear hK K
      try go_frame
      refine wpAnyH_done (by kernel_rfl) ?_ _
      go_upto_region 21 with (fail)
      refine wp_region_held_drew (S := fun w' => w'.cell? (x.add k) = some (.string ss) ∧ w'.cell? (y.add k) = some (.string vv)) (by kernel_rfl) ⟨by assumption, by assumption⟩ (fun hHeld => ?_)
      refine wpAnyH_take (i := 0) (oi := { dst := some 86, op := Op.move (Operand.tmp 12), type := 26, pos := "laws_pkg_api_b1.go:62", after := #[], guard := none }) (v := ?_) rfl (by kernel_rfl) (by kernel_rfl) (by kernel_rfl) (fun _ _ _ h => h) (Or.inl ⟨by rfl, ?_⟩) (by assumption) ?_
      rotate_left
      · intro wq hSw
        obtain ⟨q1, q2⟩ := hSw
        go_simp
        try (with_reducible rfl)
      try go_frame
      refine wpAnyH_take (i := 1) (oi := { dst := some 87, op := Op.move (Operand.tmp 0), type := 22, pos := "laws_pkg_api_b1.go:62", after := #[], guard := none }) (v := ?_) rfl (by kernel_rfl) (by kernel_rfl) (by kernel_rfl) (fun _ _ _ h => h) (Or.inl ⟨by rfl, ?_⟩) (by assumption) ?_
      rotate_left
      · intro wq hSw
        obtain ⟨q1, q2⟩ := hSw
        go_simp
        try (with_reducible rfl)
      try go_frame
      refine wpAnyH_take (i := 2) (oi := { dst := some 88, op := Op.move (Operand.tmp 13), type := 3, pos := "laws_pkg_api_b1.go:62", after := #[], guard := none }) (v := ?_) rfl (by kernel_rfl) (by kernel_rfl) (by kernel_rfl) (fun _ _ _ h => h) (Or.inl ⟨by rfl, ?_⟩) (by assumption) ?_
      rotate_left
      · intro wq hSw
        obtain ⟨q1, q2⟩ := hSw
        go_simp
        try (with_reducible rfl)
      try go_frame
      refine wpAnyH_take (i := 3) (oi := { dst := some 89, op := Op.indexAddr 22 (Operand.tmp 87) (Operand.tmp 88), type := 0, pos := "laws_pkg_api_b1.go:62", after := #[{ on := 1, ground := Ground.data }, { on := 2, ground := Ground.data }], guard := none }) (v := ?_) rfl (by kernel_rfl) (by kernel_rfl) (by kernel_rfl) (fun _ _ _ h => h) (Or.inl ⟨by rfl, ?_⟩) (by assumption) ?_
      rotate_left
      · intro wq hSw
        obtain ⟨q1, q2⟩ := hSw
        go_simp
        try (with_reducible rfl)
      try go_frame
      refine wpAnyH_take (i := 4) (oi := { dst := some 90, op := Op.load 9 (Operand.tmp 89), type := 9, pos := "laws_pkg_api_b1.go:62", after := #[{ on := 3, ground := Ground.data }], guard := none }) (v := ?_) rfl (by kernel_rfl) (by kernel_rfl) (by kernel_rfl) (fun _ _ _ h => h) (Or.inl ⟨by rfl, ?_⟩) (by assumption) ?_
      rotate_left
      · intro wq hSw
        obtain ⟨q1, q2⟩ := hSw
        go_simp
        try (with_reducible rfl)
      try go_frame
      refine wpAnyH_take (i := 5) (oi := { dst := some 91, op := Op.move (Operand.tmp 1), type := 22, pos := "laws_pkg_api_b1.go:62", after := #[], guard := none }) (v := ?_) rfl (by kernel_rfl) (by kernel_rfl) (by kernel_rfl) (fun _ _ _ h => h) (Or.inl ⟨by rfl, ?_⟩) (by assumption) ?_
      rotate_left
      · intro wq hSw
        obtain ⟨q1, q2⟩ := hSw
        go_simp
        try (with_reducible rfl)
      try go_frame
      refine wpAnyH_take (i := 6) (oi := { dst := some 92, op := Op.move (Operand.tmp 13), type := 3, pos := "laws_pkg_api_b1.go:62", after := #[], guard := none }) (v := ?_) rfl (by kernel_rfl) (by kernel_rfl) (by kernel_rfl) (fun _ _ _ h => h) (Or.inl ⟨by rfl, ?_⟩) (by assumption) ?_
      rotate_left
      · intro wq hSw
        obtain ⟨q1, q2⟩ := hSw
        go_simp
        try (with_reducible rfl)
      try go_frame
      refine wpAnyH_take (i := 7) (oi := { dst := some 93, op := Op.indexAddr 22 (Operand.tmp 91) (Operand.tmp 92), type := 0, pos := "laws_pkg_api_b1.go:62", after := #[{ on := 5, ground := Ground.data }, { on := 6, ground := Ground.data }], guard := none }) (v := ?_) rfl (by kernel_rfl) (by kernel_rfl) (by kernel_rfl) (fun _ _ _ h => h) (Or.inl ⟨by rfl, ?_⟩) (by assumption) ?_
      rotate_left
      · intro wq hSw
        obtain ⟨q1, q2⟩ := hSw
        go_simp
        try (with_reducible rfl)
      try go_frame
      refine wpAnyH_take (i := 8) (oi := { dst := some 94, op := Op.load 9 (Operand.tmp 93), type := 9, pos := "laws_pkg_api_b1.go:62", after := #[{ on := 7, ground := Ground.data }], guard := none }) (v := ?_) rfl (by kernel_rfl) (by kernel_rfl) (by kernel_rfl) (fun _ _ _ h => h) (Or.inl ⟨by rfl, ?_⟩) (by assumption) ?_
      rotate_left
      · intro wq hSw
        obtain ⟨q1, q2⟩ := hSw
        go_simp
        try (with_reducible rfl)
      try go_frame
      refine wpAnyH_ready (rs := [9]) (by kernel_rfl) (by simp) ?_
      refine AllReadyH.cons rfl (fun K hK => ?_) AllReadyH.nil
      go_simp
      refine hK.out _ _ ⟨cx6, cy6⟩ (fun hHeld => ?_)
      clear hK K
      try go_frame
      refine wpAnyH_done (by kernel_rfl) ?_ _
      clear hrun hrun6 cx cy cx5 cy5 cx6 cy6
      go_wp2
      go_roundw
      case rel => exact ⟨k + 1, by omega, by go_num, N6, P6, B6.out⟩
      case measure => simp [intOf]; omega
    have hke : k = n := by omega
    rw [hke] at HM HM2 ⊢
    clear hke hkn hk
    have HBM := Lib.hid hbel
    have hws := hbel.size
    have hbm := HM.out.lt
    have hbm2 := HM2.out.lt
    clear hbel M1 M2
    obtain ⟨w7, hrun, ho7, hg7⟩ := HM2.out.update (val := .string x3) law9 Tryf.underlying26 (by unfold maxLen; omega) (key_mk x2 (by unfold maxLen; omega)) (d := .held (.string x3)) (ps := []) rfl
    obtain ⟨D, hD⟩ : ∃ D, D = Dm (kf l0) (kf l1) n := ⟨_, rfl⟩
    have hG : OeA.Good D := by rw [hD]; exact Dm_good n GV.out
    have hIM : IsMap D := by rw [hD]; exact Dm_isMap n
    rw [← hD] at HM ho7 hno
    have hG2 : OeA.Good (D.put (kl x2) (.held (.string x3))) := good_put hG hIM _ _ (by unfold maxLen; omega)
    have h7 : ∀ q, q < wr.heap.size → q ≠ w.heap.size + 1 → w7.heap[q]? = wr.heap[q]? := fun q hq h => hg7.block q hq (fun e => h (Option.some.inj e))
    have N7 : Hid (MD w7 w.heap.size n D) := Lib.hid (md_to HM.out (h7 _ hbm (by omega)))
    have P7 : Hid (MD w7 (w.heap.size + 1) (n + 1) (D.put (kl x2) (.held (.string x3)))) := Lib.hid ho7
    have B7 := Lib.hid (HBM.out.grown hg7 hws (fun q e => by have := Option.some.inj e; omega))
    have hg7s := hg7.size
    have s1 := N7.out.size_le
    have s2 := P7.out.size_le
    have Z1 := Lib.hid (zz7 w.heap.size n D w7 N7.out hG (by omega))
    have hT2 : wt er (D.put (kl x2) (.held (.string x3))) = e1 x3 + 1 + wt er D := by
      rw [wt_put hIM hno.out]
      unfold er e2
      rw [if_neg (by rintro (h | h); exact HX.out.1 (kl_inj h); exact HX.out.2 (kl_inj h))]
      rfl
    have g1 : gt (D.put (kl x2) (.held (.string x3))) JS = gt D JS := gt_put (Ne.symm HX.out.1) _
    have g2 : gt (D.put (kl x2) (.held (.string x3))) CSS = gt D CSS := gt_put (Ne.symm HX.out.2) _
    have Z2 := Lib.hid (fun w8 h8 => zz7 (w.heap.size + 1) (n + 1) (D.put (kl x2) (.held (.string x3))) w8 h8 hG2 (by omega))
    rw [hT2, g1, g2] at Z2
    have hle : wt er D ≤ 2 * Maps.size D := ws_le (f := er) (left := fun _ => true) (D := D) 2 er_le
    obtain ⟨tt, ht⟩ : ∃ tt, tt = wt er D := ⟨_, rfl⟩
    obtain ⟨sj, hsj⟩ : ∃ s, s = gt D JS := ⟨_, rfl⟩
    obtain ⟨sc, hsc⟩ : ∃ s, s = gt D CSS := ⟨_, rfl⟩
    rw [← ht, ← hsj, ← hsc] at Z1 Z2
    rw [← ht] at hle
    have ht1 : tt ≤ 8192 := by omega
    clear ht hsj hsc hT2 g1 g2 hG hIM hG2 hno ho7 hg7 h7 HM2 HM hD hle s1 s2
    go_wp2_with (fail)
    refine Z1.out.mono ?_
    rintro e w8 ⟨rfl, hb8⟩
    have P8 := Lib.hid (md_to (w' := w8) P7.out (hb8.block _ P7.out.lt))
    have B8 := Lib.hid (B7.out.trans (hb8.mono B7.out.size))
    clear hb8
    go_wp2_with (fail)
    refine (Z2.out w8 P8.out).mono ?_
    rintro e w9 ⟨rfl, hb9⟩
    have B9 := Lib.hid (B8.out.trans (hb9.mono B8.out.size))
    clear hb9
    have V8 := Lib.hid (vx8 x3 (by unfold maxLen; omega) w9)
    unfold e1
    obtain ⟨vb, hvb⟩ : ∃ vb, vb = vx x3 := ⟨_, rfl⟩
    rw [← hvb] at V8 ⊢
    clear hvb
    cases vb
    · go_wp2_with (fail)
      refine V8.out.mono ?_
      rintro e w9' ⟨rfl, rfl⟩
      go_wp2
      go_ret
      exact ⟨ret_bool (a := (2 + (tt : Int) == (tt : Int) + 1 + 1)) (by rw [beq_iff_eq]; omega), B9.out⟩
    · go_wp2_with (fail)
      refine V8.out.mono ?_
      rintro e w9' ⟨rfl, rfl⟩
      go_wp2
      go_ret
      exact ⟨ret_bool (a := (1 + (tt : Int) == (tt : Int) + 1)) (by rw [beq_iff_eq]; omega), B9.out⟩

  · obtain rfl : n = len0 := by have := HN.out; omega
    have hlen' : ¬ (len1 : Int) < (n : Int) := by omega
    go_wp2_with (fail)
    clear hlen hlen' HN
    go_loop [10] (fun i => ∃ k : Nat, k ≤ n ∧ i = .int .i64 k ∧ Hid (∀ j, j < k → kf l0 j ≠ x2)) (fun i => n - (intOf i).toNat)
    case atStart => exact ⟨0, by omega, rfl, Lib.hid (fun j h => absurd h (Nat.not_lt_zero _))⟩
    case round =>
    obtain ⟨k, hk, rfl, HF⟩ := hrel
    by_cases hkn : k < n
    · obtain ⟨x, rfl, hxb, cx, zx⟩ := KC.out w k (Below.refl _ _) hkn
      have kn : (k : Int) < (n : Int) := by omega
      have kn2 : (k : Int) < (n : Int) := by omega
      obtain ⟨ss, hss⟩ : ∃ ss, ss = kf l0 k := ⟨_, rfl⟩
      rw [← hss] at cx zx
      have HH := Lib.hid hss
      clear hss
      by_cases h5 : ss = x2
      · have h6 : (ss.toList == x2.toList) = true := by rw [eq_toList]; simp [h5]
        clear h5
        go_wp2
        go_ret
        exact ⟨rfl, Below.refl _ _⟩
      · have h6 : (ss.toList == x2.toList) = false := by rw [eq_toList]; simp [h5]
        have H5 := Lib.hid h5
        clear h5
        go_wp2
        go_round
        case rel => exact ⟨k + 1, by omega, by go_num, Lib.hid (fun j h => by
          rcases Nat.lt_or_ge j k with g | g
          · exact HF.out j g
          · obtain rfl : j = k := by omega
            rw [← HH.out]; exact H5.out)⟩
        case measure => simp [intOf]; omega
    have hke : k = n := by omega
    rw [hke] at HF ⊢
    clear hke hkn hk
    have hno : Hid (Maps.has (Dm (kf l0) (kf l1) n) (kl x2) = false) := Lib.hid (by
      rw [← Bool.not_eq_true]
      intro h
      obtain ⟨i, hi, h⟩ := Dm_has n x2 h
      exact HF.out i hi h)
    clear HF
    go_wp2
    have M1 : Hid (MD ((w.alloc (.map #[] 0)).alloc (.map #[] 0)) w.heap.size 0 (Dm (kf l0) (kf l1) 0)) := Lib.hid ((World.ownsMap_made w Tryf.prog 9 self).alloc _)
    have M2 : Hid (MD ((w.alloc (.map #[] 0)).alloc (.map #[] 0)) (w.heap.size + 1) 0 (Dm (kf l0) (kf l1) 0)) := Lib.hid (by have := World.ownsMap_made (w.alloc (.map #[] 0)) Tryf.prog 9 self; rw [World.size_alloc] at this; exact this)
    go_loopw [13] (fun i wr => ∃ k : Nat, k ≤ n ∧ i = .int .i64 k ∧ Hid (MD wr w.heap.size k (Dm (kf l0) (kf l1) k)) ∧ Hid (MD wr (w.heap.size + 1) k (Dm (kf l0) (kf l1) k)) ∧ Below w.heap.size w wr) (fun i _ => n - (intOf i).toNat)
    case atStart => exact ⟨0, by omega, rfl, M1, M2, ((Below.refl _ _).alloc (Nat.le_refl _) _).alloc (by simp) _⟩
    case round =>
    obtain ⟨k, hk, rfl, HM, HM2, hbel⟩ := hrel
    by_cases hkn : k < n
    · obtain ⟨x, rfl, hxb, cx, zx⟩ := KC.out wr k hbel hkn
      obtain ⟨y, rfl, hyb, cy, zy⟩ := VC.out wr k hbel hkn
      have kn : (k : Int) < (n : Int) := by omega
      have kn1 : (k : Int) < (len1 : Int) := by omega
      have kn2 : (k : Int) < (n : Int) := by omega
      obtain ⟨ss, hss⟩ : ∃ ss, ss = kf l0 k := ⟨_, rfl⟩
      obtain ⟨vv, hvv⟩ : ∃ vv, vv = kf l1 k := ⟨_, rfl⟩
      rw [← hss] at cx zx
      rw [← hvv] at cy zy
      obtain ⟨w5, hrun, ho5, hg5⟩ := (md_drew HM.out).update (val := .string vv) law9 Tryf.underlying26 (by unfold maxLen; omega) (key_mk ss (by unfold maxLen; omega)) (d := .held (.string vv)) (ps := []) rfl
      have hws := hbel.size
      have hb2 := HM2.out.lt
      have hne : ∀ q : Nat, q ≠ w.heap.size → some q ≠ some w.heap.size := fun q hq e => hq (Option.some.inj e)
      have e5 : ∀ q, q < wr.heap.size → q ≠ w.heap.size → w5.heap[q]? = wr.heap[q]? := fun q hq h => hg5.block q hq (hne q h)
      have cx5 : w5.cell? (x.add k) = some (.string ss) := by rw [← cx]; exact World.cell?_of_block (e5 _ (by rw [Sls.add_block]; omega) (by rw [Sls.add_block]; omega))
      have cy5 : w5.cell? (y.add k) = some (.string vv) := by rw [← cy]; exact World.cell?_of_block (e5 _ (by rw [Sls.add_block]; omega) (by rw [Sls.add_block]; omega))
      have hz5 : wr.heap.size ≤ w5.heap.size := hg5.size
      have N5 : Hid (MD w5 w.heap.size (k + 1) (Dm (kf l0) (kf l1) (k + 1))) := Lib.hid (by unfold Dm; rw [← hss, ← hvv]; exact ho5)
      have P5 : Hid (MD w5 (w.heap.size + 1) k (Dm (kf l0) (kf l1) k)) := Lib.hid (md_to HM2.out (e5 _ hb2 (by omega)))
      have B5 := Lib.hid (hbel.drew.grown hg5 (show w.heap.size ≤ wr.drew.heap.size from hws) (fun q e => by have := Option.some.inj e; omega))
      obtain ⟨w6, hrun6, ho6, hg6⟩ := (md_drew P5.out).update (val := .string vv) law9 Tryf.underlying26 (by unfold maxLen; omega) (key_mk ss (by unfold maxLen; omega)) (d := .held (.string vv)) (ps := []) rfl
      have e6 : ∀ q, q < w5.heap.size → q ≠ w.heap.size + 1 → w6.heap[q]? = w5.heap[q]? := fun q hq h => hg6.block q hq (fun e => h (Option.some.inj e))
      have cx6 : w6.cell? (x.add k) = some (.string ss) := by rw [← cx5]; exact World.cell?_of_block (e6 _ (by rw [Sls.add_block]; omega) (by rw [Sls.add_block]; omega))
      have cy6 : w6.cell? (y.add k) = some (.string vv) := by rw [← cy5]; exact World.cell?_of_block (e6 _ (by rw [Sls.add_block]; omega) (by rw [Sls.add_block]; omega))
      have N6 : Hid (MD w6 w.heap.size (k + 1) (Dm (kf l0) (kf l1) (k + 1))) := Lib.hid (md_to N5.out (e6 _ (by omega) (by omega)))
      have P6 : Hid (MD w6 (w.heap.size + 1) (k + 1) (Dm (kf l0) (kf l1) (k + 1))) := Lib.hid (by show MD w6 (w.heap.size + 1) (k + 1) ((Dm (kf l0) (kf l1) k).put (kl (kf l0 k)) (.held (.string (kf l1 k)))); rw [← hss, ← hvv]; exact ho6)
      have B6 := Lib.hid (B5.out.drew.grown hg6 (show w.heap.size ≤ w5.drew.heap.size by show w.heap.size ≤ w5.heap.size; omega) (fun q e => by have := Option.some.inj e; omega))
      clear ho5 hg5 hss hvv hbel ho6 hg6 e5 e6 hne
      go_upto_region 20 with (fail)
      refine wp_region_held_drew (S := fun w' => w'.cell? (x.add k) = some (.string ss) ∧ w'.cell? (y.add k) = some (.string vv)) (by kernel_rfl) ⟨by assumption, by assumption⟩ (fun hHeld => ?_)
      refine wpAnyH_take (i := 0) (oi := { dst := some 77, op := Op.move (Operand.tmp 11), type := 26, pos := "laws_pkg_api_b1.go:61", after := #[], guard := none }) (v := ?_) rfl (by kernel_rfl) (by kernel_rfl) (by kernel_rfl) (fun _ _ _ h => h) (Or.inl ⟨by rfl, ?_⟩) (by assumption) ?_
      rotate_left
      · intro wq hSw
        obtain ⟨q1, q2⟩ := hSw
        go_simp
        try (with_reducible rfl)
      try go_frame
      refine wpAnyH_take (i := 1) (oi := { dst := some 78, op := Op.move (Operand.tmp 0), type := 22, pos := "laws_pkg_api_b1.go:61", after := #[], guard := none }) (v := ?_) rfl (by kernel_rfl) (by kernel_rfl) (by kernel_rfl) (fun _ _ _ h => h) (Or.inl ⟨by rfl, ?_⟩) (by assumption) ?_
      rotate_left
      · intro wq hSw
        obtain ⟨q1, q2⟩ := hSw
        go_simp
        try (with_reducible rfl)
      try go_frame
      refine wpAnyH_take (i := 2) (oi := { dst := some 79, op := Op.move (Operand.tmp 13), type := 3, pos := "laws_pkg_api_b1.go:61", after := #[], guard := none }) (v := ?_) rfl (by kernel_rfl) (by kernel_rfl) (by kernel_rfl) (fun _ _ _ h => h) (Or.inl ⟨by rfl, ?_⟩) (by assumption) ?_
      rotate_left
      · intro wq hSw
        obtain ⟨q1, q2⟩ := hSw
        go_simp
        try (with_reducible rfl)
      try go_frame
      refine wpAnyH_take (i := 3) (oi := { dst := some 80, op := Op.indexAddr 22 (Operand.tmp 78) (Operand.tmp 79), type := 0, pos := "laws_pkg_api_b1.go:61", after := #[{ on := 1, ground := Ground.data }, { on := 2, ground := Ground.data }], guard := none }) (v := ?_) rfl (by kernel_rfl) (by kernel_rfl) (by kernel_rfl) (fun _ _ _ h => h) (Or.inl ⟨by rfl, ?_⟩) (by assumption) ?_
      rotate_left
      · intro wq hSw
        obtain ⟨q1, q2⟩ := hSw
        go_simp
        try (with_reducible rfl)
      try go_frame
      refine wpAnyH_take (i := 4) (oi := { dst := some 81, op := Op.load 9 (Operand.tmp 80), type := 9, pos := "laws_pkg_api_b1.go:61", after := #[{ on := 3, ground := Ground.data }], guard := none }) (v := ?_) rfl (by kernel_rfl) (by kernel_rfl) (by kernel_rfl) (fun _ _ _ h => h) (Or.inl ⟨by rfl, ?_⟩) (by assumption) ?_
      rotate_left
      · intro wq hSw
        obtain ⟨q1, q2⟩ := hSw
        go_simp
        try (with_reducible rfl)
      try go_frame
      refine wpAnyH_take (i := 5) (oi := { dst := some 82, op := Op.move (Operand.tmp 1), type := 22, pos := "laws_pkg_api_b1.go:61", after := #[], guard := none }) (v := ?_) rfl (by kernel_rfl) (by kernel_rfl) (by kernel_rfl) (fun _ _ _ h => h) (Or.inl ⟨by rfl, ?_⟩) (by assumption) ?_
      rotate_left
      · intro wq hSw
        obtain ⟨q1, q2⟩ := hSw
        go_simp
        try (with_reducible rfl)
      try go_frame
      refine wpAnyH_take (i := 6) (oi := { dst := some 83, op := Op.move (Operand.tmp 13), type := 3, pos := "laws_pkg_api_b1.go:61", after := #[], guard := none }) (v := ?_) rfl (by kernel_rfl) (by kernel_rfl) (by kernel_rfl) (fun _ _ _ h => h) (Or.inl ⟨by rfl, ?_⟩) (by assumption) ?_
      rotate_left
      · intro wq hSw
        obtain ⟨q1, q2⟩ := hSw
        go_simp
        try (with_reducible rfl)
      try go_frame
      refine wpAnyH_take (i := 7) (oi := { dst := some 84, op := Op.indexAddr 22 (Operand.tmp 82) (Operand.tmp 83), type := 0, pos := "laws_pkg_api_b1.go:61", after := #[{ on := 5, ground := Ground.data }, { on := 6, ground := Ground.data }], guard := none }) (v := ?_) rfl (by kernel_rfl) (by kernel_rfl) (by kernel_rfl) (fun _ _ _ h => h) (Or.inl ⟨by rfl, ?_⟩) (by assumption) ?_
      rotate_left
      · intro wq hSw
        obtain ⟨q1, q2⟩ := hSw
        go_simp
        try (with_reducible rfl)
      try go_frame
      refine wpAnyH_take (i := 8) (oi := { dst := some 85, op := Op.load 9 (Operand.tmp 84), type := 9, pos := "laws_pkg_api_b1.go:61", after := #[{ on := 7, ground := Ground.data }], guard := none }) (v := ?_) rfl (by kernel_rfl) (by kernel_rfl) (by kernel_rfl) (fun _ _ _ h => h) (Or.inl ⟨by rfl, ?_⟩) (by assumption) ?_
      rotate_left
      · intro wq hSw
        obtain ⟨q1, q2⟩ := hSw
        go_simp
        try (with_reducible rfl)
      try go_frame
      refine wpAnyH_ready (rs := [9]) (by kernel_rfl) (by simp) ?_
      refine AllReadyH.cons rfl (fun K hK => ?_) AllReadyH.nil
      go_simp
      refine hK.out _ _ ⟨cx5, cy5⟩ (fun hHeld => ?_)
      clear hK K
      try go_frame
      refine wpAnyH_done (by kernel_rfl) ?_ _
      go_upto_region 21 with (fail)
      refine wp_region_held_drew (S := fun w' => w'.cell? (x.add k) = some (.string ss) ∧ w'.cell? (y.add k) = some (.string vv)) (by kernel_rfl) ⟨by assumption, by assumption⟩ (fun hHeld => ?_)
      refine wpAnyH_take (i := 0) (oi := { dst := some 86, op := Op.move (Operand.tmp 12), type := 26, pos := "laws_pkg_api_b1.go:62", after := #[], guard := none }) (v := ?_) rfl (by kernel_rfl) (by kernel_rfl) (by kernel_rfl) (fun _ _ _ h => h) (Or.inl ⟨by rfl, ?_⟩) (by assumption) ?_
      rotate_left
      · intro wq hSw
        obtain ⟨q1, q2⟩ := hSw
        go_simp
        try (with_reducible rfl)
      try go_frame
      refine wpAnyH_take (i := 1) (oi := { dst := some 87, op := Op.move (Operand.tmp 0), type := 22, pos := "laws_pkg_api_b1.go:62", after := #[], guard := none }) (v := ?_) rfl (by kernel_rfl) (by kernel_rfl) (by kernel_rfl) (fun _ _ _ h => h) (Or.inl ⟨by rfl, ?_⟩) (by assumption) ?_
      rotate_left
      · intro wq hSw
        obtain ⟨q1, q2⟩ := hSw
        go_simp
        try (with_reducible rfl)
      try go_frame
      refine wpAnyH_take (i := 2) (oi := { dst := some 88, op := Op.move (Operand.tmp 13), type := 3, pos := "laws_pkg_api_b1.go:62", after := #[], guard := none }) (v := ?_) rfl (by kernel_rfl) (by kernel_rfl) (by kernel_rfl) (fun _ _ _ h => h) (Or.inl ⟨by rfl, ?_⟩) (by assumption) ?_
      rotate_left
      · intro wq hSw
        obtain ⟨q1, q2⟩ := hSw
        go_simp
        try (with_reducible rfl)
      try go_frame
      refine wpAnyH_take (i := 3) (oi := { dst := some 89, op := Op.indexAddr 22 (Operand.tmp 87) (Operand.tmp 88), type := 0, pos := "laws_pkg_api_b1.go:62", after := #[{ on := 1, ground := Ground.data }, { on := 2, ground := Ground.data }], guard := none }) (v := ?_) rfl (by kernel_rfl) (by kernel_rfl) (by kernel_rfl) (fun _ _ _ h => h) (Or.inl ⟨by rfl, ?_⟩) (by assumption) ?_
      rotate_left
      · intro wq hSw
        obtain ⟨q1, q2⟩ := hSw
        go_simp
        try (with_reducible rfl)
      try go_frame
      refine wpAnyH_take (i := 4) (oi := { dst := some 90, op := Op.load 9 (Operand.tmp 89), type := 9, pos := "laws_pkg_api_b1.go:62", after := #[{ on := 3, ground := Ground.data }], guard := none }) (v := ?_) rfl (by kernel_rfl) (by kernel_rfl) (by kernel_rfl) (fun _ _ _ h => h) (Or.inl ⟨by rfl, ?_⟩) (by assumption) ?_
      rotate_left
      · intro wq hSw
        obtain ⟨q1, q2⟩ := hSw
        go_simp
        try (with_reducible rfl)
      try go_frame
      refine wpAnyH_take (i := 5) (oi := { dst := some 91, op := Op.move (Operand.tmp 1), type := 22, pos := "laws_pkg_api_b1.go:62", after := #[], guard := none }) (v := ?_) rfl (by kernel_rfl) (by kernel_rfl) (by kernel_rfl) (fun _ _ _ h => h) (Or.inl ⟨by rfl, ?_⟩) (by assumption) ?_
      rotate_left
      · intro wq hSw
        obtain ⟨q1, q2⟩ := hSw
        go_simp
        try (with_reducible rfl)
      try go_frame
      refine wpAnyH_take (i := 6) (oi := { dst := some 92, op := Op.move (Operand.tmp 13), type := 3, pos := "laws_pkg_api_b1.go:62", after := #[], guard := none }) (v := ?_) rfl (by kernel_rfl) (by kernel_rfl) (by kernel_rfl) (fun _ _ _ h => h) (Or.inl ⟨by rfl, ?_⟩) (by assumption) ?_
      rotate_left
      · intro wq hSw
        obtain ⟨q1, q2⟩ := hSw
        go_simp
        try (with_reducible rfl)
      try go_frame
      refine wpAnyH_take (i := 7) (oi := { dst := some 93, op := Op.indexAddr 22 (Operand.tmp 91) (Operand.tmp 92), type := 0, pos := "laws_pkg_api_b1.go:62", after := #[{ on := 5, ground := Ground.data }, { on := 6, ground := Ground.data }], guard := none }) (v := ?_) rfl (by kernel_rfl) (by kernel_rfl) (by kernel_rfl) (fun _ _ _ h => h) (Or.inl ⟨by rfl, ?_⟩) (by assumption) ?_
      rotate_left
      · intro wq hSw
        obtain ⟨q1, q2⟩ := hSw
        go_simp
        try (with_reducible rfl)
      try go_frame
      refine wpAnyH_take (i := 8) (oi := { dst := some 94, op := Op.load 9 (Operand.tmp 93), type := 9, pos := "laws_pkg_api_b1.go:62", after := #[{ on := 7, ground := Ground.data }], guard := none }) (v := ?_) rfl (by kernel_rfl) (by kernel_rfl) (by kernel_rfl) (fun _ _ _ h => h) (Or.inl ⟨by rfl, ?_⟩) (by assumption) ?_
      rotate_left
      · intro wq hSw
        obtain ⟨q1, q2⟩ := hSw
        go_simp
        try (with_reducible rfl)
      try go_frame
      refine wpAnyH_ready (rs := [9]) (by kernel_rfl) (by simp) ?_
      refine AllReadyH.cons rfl (fun K hK => ?_) AllReadyH.nil
      go_simp
      refine hK.out _ _ ⟨cx6, cy6⟩ (fun hHeld => ?_)
      clear hK K
      try go_frame
      refine wpAnyH_done (by kernel_rfl) ?_ _
      clear hrun hrun6 cx cy cx5 cy5 cx6 cy6
      go_wp2
      go_roundw
      case rel => exact ⟨k + 1, by omega, by go_num, N6, P6, B6.out⟩
      case measure => simp [intOf]; omega
    have hke : k = n := by omega
    rw [hke] at HM HM2 ⊢
    clear hke hkn hk
    have HBM := Lib.hid hbel
    have hws := hbel.size
    have hbm := HM.out.lt
    have hbm2 := HM2.out.lt
    clear hbel M1 M2
    obtain ⟨w7, hrun, ho7, hg7⟩ := HM2.out.update (val := .string x3) law9 Tryf.underlying26 (by unfold maxLen; omega) (key_mk x2 (by unfold maxLen; omega)) (d := .held (.string x3)) (ps := []) rfl
    obtain ⟨D, hD⟩ : ∃ D, D = Dm (kf l0) (kf l1) n := ⟨_, rfl⟩
    have hG : OeA.Good D := by rw [hD]; exact Dm_good n GV.out
    have hIM : IsMap D := by rw [hD]; exact Dm_isMap n
    rw [← hD] at HM ho7 hno
    have hG2 : OeA.Good (D.put (kl x2) (.held (.string x3))) := good_put hG hIM _ _ (by unfold maxLen; omega)
    have h7 : ∀ q, q < wr.heap.size → q ≠ w.heap.size + 1 → w7.heap[q]? = wr.heap[q]? := fun q hq h => hg7.block q hq (fun e => h (Option.some.inj e))
    have N7 : Hid (MD w7 w.heap.size n D) := Lib.hid (md_to HM.out (h7 _ hbm (by omega)))
    have P7 : Hid (MD w7 (w.heap.size + 1) (n + 1) (D.put (kl x2) (.held (.string x3)))) := Lib.hid ho7
    have B7 := Lib.hid (HBM.out.grown hg7 hws (fun q e => by have := Option.some.inj e; omega))
    have hg7s := hg7.size
    have s1 := N7.out.size_le
    have s2 := P7.out.size_le
    have Z1 := Lib.hid (zz7 w.heap.size n D w7 N7.out hG (by omega))
    have hT2 : wt er (D.put (kl x2) (.held (.string x3))) = e1 x3 + 1 + wt er D := by
      rw [wt_put hIM hno.out]
      unfold er e2
      rw [if_neg (by rintro (h | h); exact HX.out.1 (kl_inj h); exact HX.out.2 (kl_inj h))]
      rfl
    have g1 : gt (D.put (kl x2) (.held (.string x3))) JS = gt D JS := gt_put (Ne.symm HX.out.1) _
    have g2 : gt (D.put (kl x2) (.held (.string x3))) CSS = gt D CSS := gt_put (Ne.symm HX.out.2) _
    have Z2 := Lib.hid (fun w8 h8 => zz7 (w.heap.size + 1) (n + 1) (D.put (kl x2) (.held (.string x3))) w8 h8 hG2 (by omega))
    rw [hT2, g1, g2] at Z2
    have hle : wt er D ≤ 2 * Maps.size D := ws_le (f := er) (left := fun _ => true) (D := D) 2 er_le
    obtain ⟨tt, ht⟩ : ∃ tt, tt = wt er D := ⟨_, rfl⟩
    obtain ⟨sj, hsj⟩ : ∃ s, s = gt D JS := ⟨_, rfl⟩
    obtain ⟨sc, hsc⟩ : ∃ s, s = gt D CSS := ⟨_, rfl⟩
    rw [← ht, ← hsj, ← hsc] at Z1 Z2
    rw [← ht] at hle
    have ht1 : tt ≤ 8192 := by omega
    clear ht hsj hsc hT2 g1 g2 hG hIM hG2 hno ho7 hg7 h7 HM2 HM hD hle s1 s2
    go_wp2_with (fail)
    refine Z1.out.mono ?_
    rintro e w8 ⟨rfl, hb8⟩
    have P8 := Lib.hid (md_to (w' := w8) P7.out (hb8.block _ P7.out.lt))
    have B8 := Lib.hid (B7.out.trans (hb8.mono B7.out.size))
    clear hb8
    go_wp2_with (fail)
    refine (Z2.out w8 P8.out).mono ?_
    rintro e w9 ⟨rfl, hb9⟩
    have B9 := Lib.hid (B8.out.trans (hb9.mono B8.out.size))
    clear hb9
    have V8 := Lib.hid (vx8 x3 (by unfold maxLen; omega) w9)
    unfold e1
    obtain ⟨vb, hvb⟩ : ∃ vb, vb = vx x3 := ⟨_, rfl⟩
    rw [← hvb] at V8 ⊢
    clear hvb
    cases vb
    · go_wp2_with (fail)
      refine V8.out.mono ?_
      rintro e w9' ⟨rfl, rfl⟩
      go_wp2
      go_ret
      exact ⟨ret_bool (a := (2 + (tt : Int) == (tt : Int) + 1 + 1)) (by rw [beq_iff_eq]; omega), B9.out⟩
    · go_wp2_with (fail)
      refine V8.out.mono ?_
      rintro e w9' ⟨rfl, rfl⟩
      go_wp2
      go_ret
      exact ⟨ret_bool (a := (1 + (tt : Int) == (tt : Int) + 1)) (by rw [beq_iff_eq]; omega), B9.out⟩

set_option maxRecDepth 20000 in
theorem walk (a0 : Option Addr) (len0 cap0 : Nat) (z0 : List ByteArray) (a1 : Option Addr) (len1 cap1 : Nat) (z1 : List ByteArray) (a2 a3 : ByteArray) (w : World) (w0 : IsStrs w a0 len0 cap0 z0) (w1 : IsStrs w a1 len1 cap1 z1) (w2 : a2.size ≤ maxLen) (w3 : a3.size ≤ maxLen) :
    Calls Tryf.prog 3 #[.slice a0 len0 cap0, .slice a1 len1 cap1, .string a2, .string a3] w fun e w' => e = .returned (.bool true) ∧ Below w.heap.size w w' := by
  obtain ⟨⟨l0, L0, r0, m0⟩, e0, g0⟩ := rd_of_strs w0
  obtain ⟨⟨l1, L1, r1, m1⟩, e1, g1⟩ := rd_of_strs w1
  have hy := bytes_any a0 len0 cap0 l0 a1 len1 cap1 l1 a2 a3 w L0 g0 r0 m0 L1 g1 r1 m1 w2 w3
  unfold maxLen at w2 w3
  by_cases hz : (len0 + tot l0) + (len1 + tot l1) + a2.size + a3.size ≤ 1048576
  · have k0 : ∀ s ∈ l0, s.size ≤ 1048576 := by
      intro s hs
      obtain ⟨i, hi, rfl⟩ := List.getElem_of_mem hs
      have := tot_mem l0 i hi
      omega
    have k1 : ∀ s ∈ l1, s.size ≤ 1048576 := by
      intro s hs
      obtain ⟨i, hi, rfl⟩ := List.getElem_of_mem hs
      have := tot_mem l1 i hi
      omega
    have hy' : Calls Tryf.prog 4 #[.slice a0 len0 cap0, .slice a1 len1 cap1, .string a2, .string a3] w (Bd True w) := hy.mono fun e w' h => by
      obtain ⟨b, h1, _, h3⟩ := h
      exact ⟨b, h1, fun _ => trivial, h3⟩
    by_cases hn : len0 ≤ 4096 ∧ len1 ≤ 4096
    · exact main a0 a1 len0 cap0 len1 cap1 l0 l1 a2 a3 w _ rfl L0 L1 hn.1 hn.2 r0 r1 k0 k1 (by omega) (by omega) hy'
    · have HY := Lib.hid hy'
      have d0 : 4096 < len0 ∨ (len0 ≤ 4096 ∧ 4096 < len1) := by omega
      have n0 : len0 ≤ 1048576 := by omega
      have n1 : len1 ≤ 1048576 := by omega
      clear hy hy' w0 w1 L0 r0 e0 g0 L1 r1 m0 m1 e1 g1 hz hn k0 k1
      rcases d0 with d | ⟨d, d'⟩
      all_goals
        go_enter Tryf.func3, Tryf.ntmps3
        go_wp2_with fail
        refine HY.out.mono ?_
        rintro e w' ⟨b, rfl, _, rfl⟩
        cases b
        · go_wp2
          go_ret
          exact ⟨rfl, Below.refl _ _⟩
        · go_wp2
          go_ret
          exact ⟨rfl, Below.refl _ _⟩
  · have H := Lib.hid hy
    have HZ := Lib.hid hz
    clear hy hz w0 w1 L0 r0 e0 g0 L1 r1 m0 m1 e1 g1
    go_enter Tryf.func3, Tryf.ntmps3
    go_wp2_with fail
    refine H.out.mono ?_
    rintro e w' ⟨b, rfl, hb, rfl⟩
    cases b
    · clear hb
      go_wp2
      go_ret
      exact ⟨rfl, Below.refl _ _⟩
    · exact absurd (hb rfl) HZ.out
end Go.Proofs.YtfjiejndnbnkfaaFmt.fnOutputExtensionsUnknownKeyCostsErrors
