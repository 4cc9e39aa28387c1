/- The walk of the law FnLogOverridesUnion: for all keys and levels it returns true. No condition. -/
import Derived.Test.YtolajhmfhndamaaLoH
import Derived.Deep.QuietTactic
import Derived.BigQuiet
import Derived.Deep.RegionHeld3
import Derived.Deep.RegionWith
import Derived.Deep.OwnRows
import Derived.Laws.MakeOwn
namespace Go.Proofs.Ytolajhmfhndamaa.fnLogOverridesUnion
open Go.RowKit Go.Deep Go.Maps Go.ChangeMaps Go.MapKept Go.Proofs.Ytolajhmfhndamaa.Base Go.Proofs.Ytolajhmfhndamaa.Sls Go.Proofs.Ytolajhmfhndamaa.Mps Go.Proofs.Ytolajhmfhndamaa.LoA Go.Proofs.Ytolajhmfhndamaa.LoF Go.Proofs.Ytolajhmfhndamaa.LoG Go.Proofs.Ytolajhmfhndamaa.LoH
set_option linter.unusedVariables false
theorem make26 (n : Nat) (w : World) : (Instr.makeMap 26 (some (.int .i64 (n : Int)))).run Try.prog w = .ok (.map (some w.heap.size)) (w.alloc (.map #[] 0)) := by kernel_rfl
theorem info28 : (Try.prog.info? 28).map (fun i => (i.zero, i.size, i.bytes)) = some (some (.map none), 1, 8) := by kernel_rfl
def kf (l : List ByteArray) : Nat → ByteArray := fun i => l.getD i { data := #[] }
def vf (l : List UInt8) : Nat → Int := fun i => ((l.getD i 0).toNat : Int)
theorem kf_at (l : List ByteArray) (k : Nat) (h : k < l.length) : kf l k = l[k] := by unfold kf; rw [List.getD_eq_getElem?_getD, List.getElem?_eq_getElem h]; rfl
theorem vf_at (l : List UInt8) (k : Nat) (h : k < l.length) : vf l k = (l[k].toNat : Int) := by unfold vf; rw [List.getD_eq_getElem?_getD, List.getElem?_eq_getElem h]; rfl
def Ja (n j0 : Nat) (a b i : Value) : Prop := ∃ (k : Nat) (fb mb : Bool), k ≤ n ∧ a = .bool fb ∧ b = .bool mb ∧ i = .int .i64 k ∧ (j0 < k → fb = true ∧ mb = true)
set_option maxRecDepth 100000 in
set_option maxHeartbeats 4000000 in
theorem main (A0 A1 : Option Addr) (len0 cap0 len1 cap1 : Nat) (l0 : List ByteArray) (l1 : List UInt8) (w : World) (n : Nat) (hn : n = min len0 len1) (L0 : l0.length = len0) (L1 : l1.length = len1) (h0 : len0 ≤ 4096) (h1 : len1 ≤ 4096) (r0 : Rd w w.heap.size A0 (sv l0)) (r1 : Rd w w.heap.size A1 (bv l1)) (m0 : ∀ s ∈ l0, s.size ≤ 1048576)
    (hy : Calls Try.prog 5 #[.slice A0 len0 cap0, .slice A1 len1 cap1] w (Bd True w)) :
    Calls Try.prog 3 #[.slice A0 len0 cap0, .slice A1 len1 cap1] w fun e w' => e = .returned (.bool true) ∧ Below w.heap.size w w' := by
  have hmm := make26
  have hm2 := @run_makeMap Try.prog
  have hnl := fun (W : World) (r : Option Nat) => run_eql_map_nil (P := Try.prog) W 28 5 32 r Try.underlying28
  have HY := Lib.hid hy
  have B6 := Lib.hid (bytes6 A0 len0 cap0 l0 w L0 h0 r0 m0)
  have R0 := Lib.hid r0; have R1 := Lib.hid r1; have HL0 := Lib.hid L0; have HL1 := Lib.hid L1; have M0 := Lib.hid m0
  have hn0 : n ≤ len0 := by omega
  have hn1 : n ≤ len1 := by omega
  have KC : Hid (∀ (wx : World) k, Below w.heap.size w wx → k < n → ∃ x, A0 = some x ∧ x.block < w.heap.size ∧ wx.cell? (x.add k) = some (.string (kf l0 k)) ∧ (kf l0 k).size ≤ 1048576) := Lib.hid fun wx k hb hk => by
    obtain ⟨x, hx, hxb, cx⟩ := (r0.below hb).at_ (sv_at l0 k (by omega))
    rw [← kf_at l0 k (by omega)] at cx
    exact ⟨x, hx, hxb, cx, by rw [kf_at l0 k (by omega)]; exact m0 _ (List.getElem_mem (by omega))⟩
  have VC : Hid (∀ (wx : World) k, Below w.heap.size w wx → k < n → ∃ x, A1 = some x ∧ x.block < w.heap.size ∧ wx.cell? (x.add k) = some (.int .u8 (vf l1 k)) ∧ 0 ≤ vf l1 k ∧ vf l1 k ≤ 255) := Lib.hid fun wx k hb hk => by
    obtain ⟨x, hx, hxb, cx⟩ := (r1.below hb).at_ (bv_at l1 k (by omega))
    rw [← vf_at l1 k (by omega)] at cx
    refine ⟨x, hx, hxb, cx, by rw [vf_at l1 k (by omega)]; omega, by rw [vf_at l1 k (by omega)]; have := (l1[k]'(by omega)).toNat_lt; omega⟩
  have HN : Hid (n = min len0 len1) := Lib.hid hn
  clear hy r0 r1 L0 L1 m0 hn
  go_enter Try.func3, Try.ntmps3
  go_wp2_with (fail)
  refine HY.out.mono ?_
  rintro e w1 ⟨b1, rfl, _, rfl⟩
  go_wp2_with (fail)
  · go_ret
    exact ⟨rfl, Below.refl _ _⟩
  refine B6.out.mono ?_
  rintro e w1 ⟨tt, rfl, rfl⟩
  by_cases hlen : len1 < len0
  · obtain rfl : n = len1 := by have := HN.out; omega
    have hlen' : (n : Int) < (len0 : Int) := by omega
    go_wp2_with (fail)
    all_goals first | (go_ret; exact ⟨rfl, Below.refl _ _⟩) | skip
    clear hlen hlen' HN
    go_loop [6] (fun i => ∃ k : Nat, k ≤ n ∧ i = .int .i64 k ∧ Hid (∀ j, j < k → vf l1 j ≤ 5)) (fun i => n - (intOf i).toNat)
    case atStart => exact ⟨0, by omega, rfl, Lib.hid (fun j h => absurd h (Nat.not_lt_zero _))⟩
    case round =>
    obtain ⟨k, hk, rfl, HF⟩ := hrel
    by_cases hkn : k < n
    · obtain ⟨x, rfl, hxb, cx, v0, v255⟩ := VC.out w k (Below.refl _ _) hkn
      have kn : (k : Int) < (n : Int) := by omega
      have kn2 : (k : Int) < (n : Int) := by omega
      obtain ⟨vv, hvv⟩ : ∃ vv, vv = vf l1 k := ⟨_, rfl⟩
      rw [← hvv] at cx v0 v255
      by_cases h5 : vv ≤ 5
      · have HH := Lib.hid hvv
        clear hvv
        go_wp2
        go_round
        case rel => exact ⟨k + 1, by omega, by go_num, Lib.hid (fun j h => by
          rcases Nat.lt_or_ge j k with g | g
          · exact HF.out j g
          · obtain rfl : j = k := by omega
            rw [← HH.out]; exact h5)⟩
        case measure => simp [intOf]; omega
      · clear hvv
        have h6 : 5 < vv := by omega
        go_wp2
        go_ret
        exact ⟨rfl, Below.refl _ _⟩
    have hke : k = n := by omega
    rw [hke] at HF ⊢
    clear hke hkn hk
    have V5 : Hid (∀ i, i < n → 0 ≤ vf l1 i ∧ vf l1 i ≤ 5) := Lib.hid (fun i hi => ⟨by obtain ⟨_, _, _, _, h, _⟩ := VC.out w i (Below.refl _ _) hi; exact h, HF.out i hi⟩)
    go_wp2
    go_loopw [8] (fun i wr => ∃ k : Nat, k ≤ n ∧ i = .int .i64 k ∧ Hid (MD wr w.heap.size k (Dm (kf l0) (vf l1) k)) ∧ Below w.heap.size w wr) (fun i _ => n - (intOf i).toNat)
    case atStart => exact ⟨0, by omega, rfl, Lib.hid (World.ownsMap_made w Try.prog 9 self), (Below.refl _ _).alloc (Nat.le_refl _) _⟩
    case round =>
    obtain ⟨k, hk, rfl, HM, hbel⟩ := hrel
    by_cases hkn : k < n
    · obtain ⟨x, rfl, hxb, cx, zx⟩ := KC.out wr k hbel hkn
      obtain ⟨y, rfl, hyb, cy, v0, v255⟩ := VC.out wr k hbel hkn
      have kn : (k : Int) < (len0 : Int) := by omega
      have kn1 : (k : Int) < (n : Int) := by omega
      have kn2 : (k : Int) < (n : Int) := by omega
      obtain ⟨ss, hss⟩ : ∃ ss, ss = kf l0 k := ⟨_, rfl⟩
      obtain ⟨vv, hvv⟩ : ∃ vv, vv = vf l1 k := ⟨_, rfl⟩
      rw [← hss] at cx zx
      rw [← hvv] at cy v0 v255
      obtain ⟨w5, hrun, ho5, hg5⟩ := (md_drew HM.out).update (val := .int .u8 vv) law9 Try.underlying26 (by unfold maxLen; omega) (WideMaps.keyOf_string_mk Try.underlying9 (s := ss) (by unfold maxLen; omega)) (d := .held (.int .u8 vv)) (ps := []) rfl
      have hws := hbel.size
      have hne : ∀ q : Nat, q < w.heap.size → some q ≠ some w.heap.size := fun q hq e => by have := Option.some.inj e; omega
      have cx5 : w5.cell? (x.add k) = some (.string ss) := by rw [← cx]; exact World.cell?_of_block (hg5.block _ (by rw [Sls.add_block]; show _ < wr.heap.size; omega) (hne _ (by rw [Sls.add_block]; exact hxb)))
      have cy5 : w5.cell? (y.add k) = some (.int .u8 vv) := by rw [← cy]; exact World.cell?_of_block (hg5.block _ (by rw [Sls.add_block]; show _ < wr.heap.size; omega) (hne _ (by rw [Sls.add_block]; exact hyb)))
      have N5 : Hid (MD w5 w.heap.size (k + 1) (Dm (kf l0) (vf l1) (k + 1))) := Lib.hid (by unfold Dm; rw [← hss, ← hvv]; exact ho5)
      have B5 := Lib.hid (hbel.drew.grown hg5 (show w.heap.size ≤ wr.drew.heap.size from hws) (fun q e => by have := Option.some.inj e; omega))
      clear ho5 hg5 hss hvv hbel
      go_wp2
      refine wp_region_held_drew (S := fun w' => w'.cell? (x.add k) = some (.string ss) ∧ w'.cell? (y.add k) = some (.int .u8 vv)) (by kernel_rfl) ⟨cx, cy⟩ (fun hHeld => ?_)
      refine wpAnyH_take (i := 0) (oi := { dst := some 65, op := Op.move (Operand.tmp 7), type := 26, pos := "laws_pkg_api_b1.go:114", after := #[], guard := none }) (v := ?_) rfl (by kernel_rfl) (by kernel_rfl) (by kernel_rfl) (fun _ _ _ h => h) (Or.inl ⟨by rfl, ?_⟩) (by assumption) ?_
      rotate_left
      · intro wq hSw
        obtain ⟨q1, q2⟩ := hSw
        go_simp
        try (with_reducible rfl)
      try go_frame
      refine wpAnyH_take (i := 1) (oi := { dst := some 66, op := Op.move (Operand.tmp 0), type := 22, pos := "laws_pkg_api_b1.go:114", after := #[], guard := none }) (v := ?_) rfl (by kernel_rfl) (by kernel_rfl) (by kernel_rfl) (fun _ _ _ h => h) (Or.inl ⟨by rfl, ?_⟩) (by assumption) ?_
      rotate_left
      · intro wq hSw
        obtain ⟨q1, q2⟩ := hSw
        go_simp
        try (with_reducible rfl)
      try go_frame
      refine wpAnyH_take (i := 2) (oi := { dst := some 67, op := Op.move (Operand.tmp 8), type := 3, pos := "laws_pkg_api_b1.go:114", after := #[], guard := none }) (v := ?_) rfl (by kernel_rfl) (by kernel_rfl) (by kernel_rfl) (fun _ _ _ h => h) (Or.inl ⟨by rfl, ?_⟩) (by assumption) ?_
      rotate_left
      · intro wq hSw
        obtain ⟨q1, q2⟩ := hSw
        go_simp
        try (with_reducible rfl)
      try go_frame
      refine wpAnyH_take (i := 3) (oi := { dst := some 68, op := Op.indexAddr 22 (Operand.tmp 66) (Operand.tmp 67), type := 0, pos := "laws_pkg_api_b1.go:114", after := #[{ on := 1, ground := Ground.data }, { on := 2, ground := Ground.data }], guard := none }) (v := ?_) rfl (by kernel_rfl) (by kernel_rfl) (by kernel_rfl) (fun _ _ _ h => h) (Or.inl ⟨by rfl, ?_⟩) (by assumption) ?_
      rotate_left
      · intro wq hSw
        obtain ⟨q1, q2⟩ := hSw
        go_simp
        try (with_reducible rfl)
      try go_frame
      refine wpAnyH_take (i := 4) (oi := { dst := some 69, op := Op.load 9 (Operand.tmp 68), type := 9, pos := "laws_pkg_api_b1.go:114", after := #[{ on := 3, ground := Ground.data }], guard := none }) (v := ?_) rfl (by kernel_rfl) (by kernel_rfl) (by kernel_rfl) (fun _ _ _ h => h) (Or.inl ⟨by rfl, ?_⟩) (by assumption) ?_
      rotate_left
      · intro wq hSw
        obtain ⟨q1, q2⟩ := hSw
        go_simp
        try (with_reducible rfl)
      try go_frame
      refine wpAnyH_take (i := 5) (oi := { dst := some 70, op := Op.move (Operand.tmp 1), type := 23, pos := "laws_pkg_api_b1.go:114", after := #[], guard := none }) (v := ?_) rfl (by kernel_rfl) (by kernel_rfl) (by kernel_rfl) (fun _ _ _ h => h) (Or.inl ⟨by rfl, ?_⟩) (by assumption) ?_
      rotate_left
      · intro wq hSw
        obtain ⟨q1, q2⟩ := hSw
        go_simp
        try (with_reducible rfl)
      try go_frame
      refine wpAnyH_take (i := 6) (oi := { dst := some 71, op := Op.move (Operand.tmp 8), type := 3, pos := "laws_pkg_api_b1.go:114", after := #[], guard := none }) (v := ?_) rfl (by kernel_rfl) (by kernel_rfl) (by kernel_rfl) (fun _ _ _ h => h) (Or.inl ⟨by rfl, ?_⟩) (by assumption) ?_
      rotate_left
      · intro wq hSw
        obtain ⟨q1, q2⟩ := hSw
        go_simp
        try (with_reducible rfl)
      try go_frame
      refine wpAnyH_take (i := 7) (oi := { dst := some 72, op := Op.indexAddr 23 (Operand.tmp 70) (Operand.tmp 71), type := 0, pos := "laws_pkg_api_b1.go:114", after := #[{ on := 5, ground := Ground.data }, { on := 6, ground := Ground.data }], guard := none }) (v := ?_) rfl (by kernel_rfl) (by kernel_rfl) (by kernel_rfl) (fun _ _ _ h => h) (Or.inl ⟨by rfl, ?_⟩) (by assumption) ?_
      rotate_left
      · intro wq hSw
        obtain ⟨q1, q2⟩ := hSw
        go_simp
        try (with_reducible rfl)
      try go_frame
      refine wpAnyH_take (i := 8) (oi := { dst := some 73, op := Op.load 5 (Operand.tmp 72), type := 5, pos := "laws_pkg_api_b1.go:114", after := #[{ on := 7, ground := Ground.data }], guard := none }) (v := ?_) rfl (by kernel_rfl) (by kernel_rfl) (by kernel_rfl) (fun _ _ _ h => h) (Or.inl ⟨by rfl, ?_⟩) (by assumption) ?_
      rotate_left
      · intro wq hSw
        obtain ⟨q1, q2⟩ := hSw
        go_simp
        try (with_reducible rfl)
      try go_frame
      refine wpAnyH_ready (rs := [9]) (by kernel_rfl) (by simp) ?_
      refine AllReadyH.cons rfl (fun K hK => ?_) AllReadyH.nil
      go_simp
      refine hK.out _ _ ⟨cx5, cy5⟩ (fun hHeld => ?_)
      clear hK K
      try go_frame
      refine wpAnyH_done (by kernel_rfl) ?_ _
      clear hrun cx cy cx5 cy5
      go_wp2
      go_roundw
      case rel => exact ⟨k + 1, by omega, by go_num, N5, B5.out⟩
      case measure => simp [intOf]; omega
    have hke : k = n := by omega
    rw [hke] at HM ⊢
    clear hke hkn hk
    have HBM := Lib.hid hbel
    have hws := hbel.size
    have hbm := HM.out.lt
    clear hbel
    have VL := Lib.hid (val7 w.heap.size n (Dm (kf l0) (vf l1) n) wr HM.out (Dm_good n V5.out) (Nat.le_trans HM.out.size_le (by omega)))
    obtain ⟨V, hV⟩ := levels (ks := kf l0) (vs := vf l1) n V5.out
    have HV := Lib.hid hV
    clear hV
    go_wp2_with (fail)
    refine VL.out.mono ?_
    rintro e w9 ⟨DU, mU, rfl, oU, _, cU, bU⟩
    have HU := Lib.hid oU; have HC := Lib.hid cU
    have BU := Lib.hid (below_join HBM.out HBM.out.size bU)
    have HM9 : Hid (MD w9 w.heap.size n (Dm (kf l0) (vf l1) n)) := Lib.hid (md_block HM.out (bU.block _ hbm))
    have hu9 := oU.lt
    have hz9 := bU.size
    obtain ⟨U, hU⟩ : ∃ U, U = wr.heap.size := ⟨_, rfl⟩
    rw [← hU] at HU hu9 hz9 ⊢
    have hUw : w.heap.size < U := by omega
    clear oU cU bU hU VL
    have hms : ∀ wz : World, (Instr.makeSlice 30 (.int .i64 (n : Int)) (.int .i64 (n : Int))).run Try.prog wz = .ok (.slice (some ⟨wz.heap.size, 0, none⟩) n n) (wz.alloc (.cells (madeCells #[.map none] n) 28)) := by
      intro wz
      obtain ⟨i0, hi, hz0, hz1, hz2⟩ := info_parts info28
      have := run_make (P := Try.prog) wz 30 28 i0 _ Try.underlying30 hi hz0 .i64 .i64 n n (by omega) (by omega) (by rw [hz2]; omega) (by omega)
      rw [hz1, Nat.mul_one] at this
      exact this
    go_wp2
    clear hms
    have RZ : Hid ((w9.alloc (.cells (madeCells #[.map none] n) 28)).rowIs w9.heap.size 28 n (fun _ => .map none)) := Lib.hid (World.rowIs_made w9 (.map none) n 28)
    go_loopw [11] (fun i wr => ∃ k : Nat, k ≤ n ∧ i = .int .i64 k ∧ Hid (∃ f, wr.rowIs w9.heap.size 28 n f ∧ ∀ j, j < k → ∃ (b : Nat) (D : DataW Value) (m : Nat), f j = .map (some b) ∧ OM wr b m D ∧ Key (kf l0 j) (V j) D ∧ w9.heap.size < b) ∧ Hid (OM wr U mU DU) ∧ Hid (MD wr w.heap.size n (Dm (kf l0) (vf l1) n)) ∧ Below w.heap.size w wr) (fun i _ => n - (intOf i).toNat)
    case atStart => exact ⟨0, by omega, rfl, Lib.hid ⟨_, RZ.out, fun j h => absurd h (Nat.not_lt_zero _)⟩, Lib.hid (om_block HU.out (blk_alloc_lt _ _ _ hu9)), Lib.hid (md_block HM9.out (blk_alloc_lt _ _ _ HM9.out.lt)), BU.out.alloc BU.out.size _⟩
    case round =>
    obtain ⟨k, hk, rfl, HS, HUr, HMr, hbel⟩ := hrel
    by_cases hkn : k < n
    · obtain ⟨x, rfl, hxb, cx, zx⟩ := KC.out wr k hbel hkn
      obtain ⟨v0, v5, hat⟩ := HV.out k hkn
      have kn : (k : Int) < (len0 : Int) := by omega
      have kn2 : (k : Int) < (n : Int) := by omega
      obtain ⟨ss, hss⟩ : ∃ ss, ss = kf l0 k := ⟨_, rfl⟩
      obtain ⟨vv, hvv⟩ : ∃ vv, vv = V k := ⟨_, rfl⟩
      rw [← hss] at cx zx hat
      rw [← hvv] at hat v0 v5
      have HAT := Lib.hid hat
      obtain ⟨f, hrow, hS⟩ := HS.out
      have hws := hbel.size
      have h9r : w9.heap.size < wr.heap.size := hrow.lt
      have hzs : ss.size ≤ maxLen := by unfold maxLen; omega
      obtain ⟨w5, hrun, ho5, hg5⟩ := (md_drew (World.ownsMap_made wr Try.prog 9 self)).update (val := .int .u8 vv) law9 Try.underlying26 (by unfold maxLen; omega) (WideMaps.keyOf_string_mk Try.underlying9 (s := ss) hzs) (d := .held (.int .u8 vv)) (ps := []) rfl
      have N5 : Hid (MD w5 wr.heap.size 1 (D1 ss vv)) := Lib.hid ho5
      have hz5 : wr.heap.size + 1 ≤ w5.heap.size := by have := hg5.size; simpa using this
      have e5 : ∀ q, q < wr.heap.size → w5.heap[q]? = wr.heap[q]? := fun q hq => (hg5.block q (by show q < (wr.alloc (.map #[] 0)).heap.size; rw [World.size_alloc]; omega) (by intro e; have := Option.some.inj e; omega)).trans (blk_alloc_lt _ _ _ hq)
      have HE5 := Lib.hid e5
      have cx5 : w5.cell? (x.add k) = some (.string ss) := by rw [← cx]; exact World.cell?_of_block (e5 _ (by rw [Sls.add_block]; omega))
      have cx1 : ∀ o, ((wr.alloc o).drew).cell? (x.add k) = some (.string ss) := fun o => by rw [← cx]; exact World.cell?_of_block (blk_alloc_lt _ _ _ (by rw [Sls.add_block]; omega))
      have b1 : ∀ o, ((wr.alloc o).drew).heap[w.heap.size]? = wr.heap[w.heap.size]? := fun o => blk_alloc_lt _ _ _ (by omega)
      have BR := Lib.hid hbel
      have B5 := Lib.hid (((hbel.alloc hws (.map #[] 0)).drew).grown hg5 (show w.heap.size ≤ (wr.alloc (.map #[] 0)).heap.size by rw [World.size_alloc]; omega) (fun q e => by have := Option.some.inj e; omega))
      have HR := Lib.hid hrow
      have HSS := Lib.hid hS
      have HK1 := Lib.hid hss; have HK2 := Lib.hid hvv
      clear ho5 hg5 hss hvv hbel e5 hat hrow hS HS
      go_wp2
      refine wp_region_held_drew (S := fun w' => w'.cell? (x.add k) = some (.string ss) ∧ w'.heap[w.heap.size]? = wr.heap[w.heap.size]?) (by kernel_rfl) ⟨cx, rfl⟩ (fun hHeld => ?_)
      refine wpAnyH_take (i := 1) (oi := { dst := some 86, op := Op.move (Operand.tmp 0), type := 22, pos := "laws_pkg_api_b1.go:122", after := #[], guard := none }) (v := ?_) rfl (by kernel_rfl) (by kernel_rfl) (by kernel_rfl) (fun _ _ _ h => h) (Or.inl ⟨by rfl, ?_⟩) (by assumption) ?_
      rotate_left
      · intro wq hSw
        obtain ⟨q1, q2⟩ := hSw
        go_simp
        try (with_reducible rfl)
      try go_frame
      refine wpAnyH_take (i := 2) (oi := { dst := some 87, op := Op.move (Operand.tmp 11), type := 3, pos := "laws_pkg_api_b1.go:122", after := #[], guard := none }) (v := ?_) rfl (by kernel_rfl) (by kernel_rfl) (by kernel_rfl) (fun _ _ _ h => h) (Or.inl ⟨by rfl, ?_⟩) (by assumption) ?_
      rotate_left
      · intro wq hSw
        obtain ⟨q1, q2⟩ := hSw
        go_simp
        try (with_reducible rfl)
      try go_frame
      refine wpAnyH_take (i := 3) (oi := { dst := some 88, op := Op.indexAddr 22 (Operand.tmp 86) (Operand.tmp 87), type := 0, pos := "laws_pkg_api_b1.go:122", after := #[{ on := 1, ground := Ground.data }, { on := 2, ground := Ground.data }], guard := none }) (v := ?_) rfl (by kernel_rfl) (by kernel_rfl) (by kernel_rfl) (fun _ _ _ h => h) (Or.inl ⟨by rfl, ?_⟩) (by assumption) ?_
      rotate_left
      · intro wq hSw
        obtain ⟨q1, q2⟩ := hSw
        go_simp
        try (with_reducible rfl)
      try go_frame
      refine wpAnyH_take (i := 4) (oi := { dst := some 89, op := Op.load 9 (Operand.tmp 88), type := 9, pos := "laws_pkg_api_b1.go:122", after := #[{ on := 3, ground := Ground.data }], guard := none }) (v := ?_) rfl (by kernel_rfl) (by kernel_rfl) (by kernel_rfl) (fun _ _ _ h => h) (Or.inl ⟨by rfl, ?_⟩) (by assumption) ?_
      rotate_left
      · intro wq hSw
        obtain ⟨q1, q2⟩ := hSw
        go_simp
        try (with_reducible rfl)
      try go_frame
      refine wpAnyH_take (i := 5) (oi := { dst := some 90, op := Op.move (Operand.tmp 7), type := 26, pos := "laws_pkg_api_b1.go:122", after := #[], guard := none }) (v := ?_) rfl (by kernel_rfl) (by kernel_rfl) (by kernel_rfl) (fun _ _ _ h => h) (Or.inl ⟨by rfl, ?_⟩) (by assumption) ?_
      rotate_left
      · intro wq hSw
        obtain ⟨q1, q2⟩ := hSw
        go_simp
        try (with_reducible rfl)
      try go_frame
      refine wpAnyH_take (i := 6) (oi := { dst := some 91, op := Op.move (Operand.tmp 0), type := 22, pos := "laws_pkg_api_b1.go:122", after := #[], guard := none }) (v := ?_) rfl (by kernel_rfl) (by kernel_rfl) (by kernel_rfl) (fun _ _ _ h => h) (Or.inl ⟨by rfl, ?_⟩) (by assumption) ?_
      rotate_left
      · intro wq hSw
        obtain ⟨q1, q2⟩ := hSw
        go_simp
        try (with_reducible rfl)
      try go_frame
      refine wpAnyH_take (i := 7) (oi := { dst := some 92, op := Op.move (Operand.tmp 11), type := 3, pos := "laws_pkg_api_b1.go:122", after := #[], guard := none }) (v := ?_) rfl (by kernel_rfl) (by kernel_rfl) (by kernel_rfl) (fun _ _ _ h => h) (Or.inl ⟨by rfl, ?_⟩) (by assumption) ?_
      rotate_left
      · intro wq hSw
        obtain ⟨q1, q2⟩ := hSw
        go_simp
        try (with_reducible rfl)
      try go_frame
      refine wpAnyH_take (i := 8) (oi := { dst := some 93, op := Op.indexAddr 22 (Operand.tmp 91) (Operand.tmp 92), type := 0, pos := "laws_pkg_api_b1.go:122", after := #[{ on := 6, ground := Ground.data }, { on := 7, ground := Ground.data }], guard := none }) (v := ?_) rfl (by kernel_rfl) (by kernel_rfl) (by kernel_rfl) (fun _ _ _ h => h) (Or.inl ⟨by rfl, ?_⟩) (by assumption) ?_
      rotate_left
      · intro wq hSw
        obtain ⟨q1, q2⟩ := hSw
        go_simp
        try (with_reducible rfl)
      try go_frame
      refine wpAnyH_take (i := 9) (oi := { dst := some 94, op := Op.load 9 (Operand.tmp 93), type := 9, pos := "laws_pkg_api_b1.go:122", after := #[{ on := 8, ground := Ground.data }], guard := none }) (v := ?_) rfl (by kernel_rfl) (by kernel_rfl) (by kernel_rfl) (fun _ _ _ h => h) (Or.inl ⟨by rfl, ?_⟩) (by assumption) ?_
      rotate_left
      · intro wq hSw
        obtain ⟨q1, q2⟩ := hSw
        go_simp
        try (with_reducible rfl)
      try go_frame
      refine wpAnyH_take (i := 10) (oi := { dst := some 95, op := Op.lookup 26 (Operand.tmp 90) (Operand.tmp 94) false, type := 27, pos := "laws_pkg_api_b1.go:122", after := #[{ on := 5, ground := Ground.data }, { on := 9, ground := Ground.data }], guard := none }) (v := ?_) rfl (by kernel_rfl) (by kernel_rfl) (by kernel_rfl) (fun _ _ _ h => h) (Or.inl ⟨by rfl, ?_⟩) (by assumption) ?_
      rotate_left
      · intro wq hSw
        obtain ⟨q1, q2⟩ := hSw
        have q3 := look26 (md_block HMr.out q2) hzs HAT.out
        go_simp
        try (with_reducible rfl)
      try go_frame
      refine wpAnyH_ready (rs := [0]) (by kernel_rfl) (by simp) ?_
      refine AllReadyH.cons rfl (fun K hK => ?_) AllReadyH.nil
      go_simp
      refine hK.out _ _ ⟨cx1 _, b1 _⟩ (fun hHeld => ?_)
      clear hK K
      try go_frame
      refine wpAnyH_ready (rs := [11]) (by kernel_rfl) (by simp) ?_
      refine AllReadyH.cons rfl (fun K hK => ?_) AllReadyH.nil
      go_simp
      refine hK.out _ _ ⟨cx5, HE5.out _ (by omega)⟩ (fun hHeld => ?_)
      clear hK K
      try go_frame
      refine wpAnyH_take (i := 12) (oi := { dst := some 96, op := Op.move (Operand.tmp 85), type := 26, pos := "laws_pkg_api_b1.go:122", after := #[{ on := 0, ground := Ground.data }, { on := 1, ground := Ground.data }, { on := 2, ground := Ground.data }, { on := 3, ground := Ground.data }, { on := 4, ground := Ground.data }, { on := 5, ground := Ground.data }, { on := 6, ground := Ground.data }, { on := 7, ground := Ground.data }, { on := 8, ground := Ground.data }, { on := 9, ground := Ground.data }, { on := 10, ground := Ground.data }, { on := 11, ground := Ground.data }], guard := none }) (v := ?_) rfl (by kernel_rfl) (by kernel_rfl) (by kernel_rfl) (fun _ _ _ h => h) (Or.inl ⟨by rfl, ?_⟩) (by assumption) ?_
      rotate_left
      · intro wq hSw
        have q1 := hSw.1
        go_simp
        try (with_reducible rfl)
      try go_frame
      refine wpAnyH_take (i := 13) (oi := { dst := some 12, op := Op.assign (Operand.tmp 96), type := 26, pos := "laws_pkg_api_b1.go:122", after := #[{ on := 12, ground := Ground.data }, { on := 0, ground := Ground.phase }, { on := 1, ground := Ground.phase }, { on := 2, ground := Ground.phase }, { on := 3, ground := Ground.phase }, { on := 4, ground := Ground.phase }, { on := 5, ground := Ground.phase }, { on := 6, ground := Ground.phase }, { on := 7, ground := Ground.phase }, { on := 8, ground := Ground.phase }, { on := 9, ground := Ground.phase }, { on := 10, ground := Ground.phase }, { on := 11, ground := Ground.phase }, { on := 12, ground := Ground.phase }], guard := none }) (v := ?_) rfl (by kernel_rfl) (by kernel_rfl) (by kernel_rfl) (fun _ _ _ h => h) (Or.inl ⟨by rfl, ?_⟩) (by assumption) ?_
      rotate_left
      · intro wq hSw
        have q1 := hSw.1
        go_simp
        try (with_reducible rfl)
      try go_frame
      refine wpAnyH_done (by kernel_rfl) ?_ _
      clear hrun cx cx5 cx1 b1
      go_wp2_with (fail)
      refine (one7 ss vv wr.heap.size 1 w5 N5.out v0 v5).mono ?_
      rintro e w6 ⟨DO, mO, rfl, oO, kO, bO⟩
      have hb6 := oO.lt
      have R6 : w6.rowIs w9.heap.size 28 n f := HR.out.of_block ((bO.block _ (by omega)).trans (HE5.out _ h9r))
      have d6 := R6.cell (i := k) hkn
      have f6 := R6.frozen k
      have e7 : ∀ q, q < wr.heap.size → q ≠ w9.heap.size → (w6.setCell ⟨w9.heap.size, k, none⟩ (.map (some w5.heap.size))).heap[q]? = wr.heap[q]? := fun q hq hne => (blk_setCell_other _ _ _ _ hne).trans ((bO.block _ (by omega)).trans (HE5.out _ hq))
      have NS : Hid (∃ f, (w6.setCell ⟨w9.heap.size, k, none⟩ (.map (some w5.heap.size))).rowIs w9.heap.size 28 n f ∧ ∀ j, j < k + 1 → ∃ (b : Nat) (D : DataW Value) (m : Nat), f j = .map (some b) ∧ OM (w6.setCell ⟨w9.heap.size, k, none⟩ (.map (some w5.heap.size))) b m D ∧ Key (kf l0 j) (V j) D ∧ w9.heap.size < b) := Lib.hid ⟨_, R6.set k (.map (some w5.heap.size)), fun j hj => by
        rcases Nat.lt_or_ge j k with g | g
        · obtain ⟨b, D, m, q1, q2, q3, q4⟩ := HSS.out j g
          have hbl := q2.lt
          exact ⟨b, D, m, by rw [if_neg (by omega)]; exact q1, om_block q2 (e7 b hbl (by omega)), q3, q4⟩
        · obtain rfl : j = k := by omega
          exact ⟨w5.heap.size, DO, mO, if_pos rfl, om_block oO (blk_setCell_other _ _ _ _ (by show w5.heap.size ≠ w9.heap.size; omega)), by rw [← HK1.out, ← HK2.out]; exact kO, by omega⟩⟩
      have NU : Hid (OM (w6.setCell ⟨w9.heap.size, k, none⟩ (.map (some w5.heap.size))) U mU DU) := Lib.hid (om_block HUr.out (e7 U HUr.out.lt (by omega)))
      have NM : Hid (MD (w6.setCell ⟨w9.heap.size, k, none⟩ (.map (some w5.heap.size))) w.heap.size n (Dm (kf l0) (vf l1) n)) := Lib.hid (md_block HMr.out (e7 _ HMr.out.lt (by omega)))
      have NB := Lib.hid ((below_join B5.out (by omega) bO).setCell (show w.heap.size ≤ (⟨w9.heap.size, k, none⟩ : Addr).block by show w.heap.size ≤ w9.heap.size; omega) (.map (some w5.heap.size)))
      clear oO kO bO R6 e7
      go_wp2
      go_roundw
      case rel => exact ⟨k + 1, by omega, by go_num, NS, NU, NM, NB.out⟩
      case measure => simp [intOf]; omega
    have hke : k = n := by omega
    rw [hke] at HS ⊢
    clear hke hkn hk
    have BR := Lib.hid hbel
    clear hbel RZ HBM BU HM9
    obtain ⟨f, hrow, hS⟩ := HS.out
    have HR := Lib.hid hrow; have HSS := Lib.hid hS
    clear hrow hS HS HMr
    go_wp2
    go_loop [13] (fun i => ∃ x : Nat, x ≤ 256 ∧ i = .int .i64 x) (fun i => 256 - (intOf i).toNat)
    case atStart => exact ⟨0, by omega, rfl⟩
    case round =>
    obtain ⟨x, hx, rfl⟩ := hrel
    by_cases hx2 : x < 256
    · have x3 : (x : Int) < 256 := by omega
      have x4 : (0 : Int) ≤ (x : Int) := by omega
      rcases union HV.out HC.out (x : Int) with ⟨hh, j0, hj0, hin, hval⟩ | ⟨hh, hno⟩
      · have q0 := look_at HUr.out (x := (x : Int)) (by omega) (by omega) hh hval
        have HIN := Lib.hid hin
        obtain ⟨L, hL⟩ : ∃ L, L = lvl (V j0) := ⟨_, rfl⟩
        rw [← hL] at q0
        have HLL := Lib.hid hL
        clear hh hin hval hL
        go_wp2_with (fail)
        go_loop [17, 18, 19] (fun a b i => Ja n j0 a b i) (fun _ _ i => n - (intOf i).toNat)
        case atStart => exact ⟨0, false, false, by omega, rfl, rfl, rfl, fun h => absurd h (Nat.not_lt_zero _)⟩
        case round =>
        obtain ⟨k, fb, mb, hk, rfl, rfl, rfl, hfm⟩ := hrel
        have HFM := Lib.hid hfm
        clear hfm
        by_cases hkn : k < n
        · have k2 : (k : Int) < (n : Int) := by omega
          have k3 : (0 : Int) ≤ (k : Int) := by omega
          obtain ⟨bk, Dk, mk, s1, s2, s3, s4⟩ := HSS.out k hkn
          have ck : wr.cell? ⟨w9.heap.size, k, none⟩ = some (.map (some bk)) := (HR.out.cell hkn).trans (by rw [s1])
          by_cases hxk : (x : Int) ∈ ids (kf l0 k)
          · have q1 := look_in s2 s3 (x := (x : Int)) (by omega) (by omega) hxk
            obtain ⟨L2, hL2⟩ : ∃ L2, L2 = lvl (V k) := ⟨_, rfl⟩
            rw [← hL2] at q1
            have HL2 := Lib.hid hL2
            clear hL2 s1 s2 s3 s4 hxk
            by_cases hq : L2 = L
            · have e : (L2 == L) = true := by simp [hq]
              clear hq
              go_wp2
              exact ⟨⟨k + 1, true, true, by omega, rfl, rfl, by go_num, fun _ => ⟨rfl, rfl⟩⟩, by simp [intOf]; omega⟩
            · have e : (L2 == L) = false := by simp [hq]
              have HQ := Lib.hid hq
              clear hq
              go_wp2
              exact ⟨⟨k + 1, true, mb, by omega, rfl, rfl, by go_num, fun h => by
                have hne : k ≠ j0 := fun e => HQ.out (by rw [HL2.out, HLL.out, e])
                exact ⟨rfl, (HFM.out (by omega)).2⟩⟩, by simp [intOf]; omega⟩
          · obtain ⟨u2, q1⟩ := look_out s2 s3 (x := (x : Int)) (by omega) (by omega) hxk
            have HXK := Lib.hid hxk
            clear s1 s2 s3 s4 hxk
            go_wp2
            exact ⟨⟨k + 1, fb, mb, by omega, rfl, rfl, by go_num, fun h => HFM.out (by
              have hne : k ≠ j0 := fun e => HXK.out (by rw [e]; exact HIN.out)
              omega)⟩, by simp [intOf]; omega⟩
        obtain rfl : k = n := by omega
        obtain ⟨rfl, rfl⟩ := HFM.out hj0
        go_wp2
        exact ⟨⟨x + 1, by omega, by go_num⟩, by simp [intOf]; omega⟩
      · obtain ⟨u, q0⟩ := look_no HUr.out (x := (x : Int)) (by omega) (by omega) hh
        have HNO := Lib.hid hno
        clear hh hno
        go_wp2_with (fail)
        go_loop [17, 18, 19] (fun a b i => ∃ k : Nat, k ≤ n ∧ a = .bool false ∧ b = .bool false ∧ i = .int .i64 k) (fun _ _ i => n - (intOf i).toNat)
        case atStart => exact ⟨0, by omega, rfl, rfl, rfl⟩
        case round =>
        obtain ⟨k, hk, rfl, rfl, rfl⟩ := hrel
        by_cases hkn : k < n
        · have k2 : (k : Int) < (n : Int) := by omega
          have k3 : (0 : Int) ≤ (k : Int) := by omega
          obtain ⟨bk, Dk, mk, s1, s2, s3, s4⟩ := HSS.out k hkn
          have ck : wr.cell? ⟨w9.heap.size, k, none⟩ = some (.map (some bk)) := (HR.out.cell hkn).trans (by rw [s1])
          obtain ⟨u2, q1⟩ := look_out s2 s3 (x := (x : Int)) (by omega) (by omega) (HNO.out k hkn)
          clear s1 s2 s3 s4
          go_wp2
          exact ⟨⟨k + 1, by omega, rfl, rfl, by go_num⟩, by simp [intOf]; omega⟩
        obtain rfl : k = n := by omega
        go_wp2
        exact ⟨⟨x + 1, by omega, by go_num⟩, by simp [intOf]; omega⟩
    obtain rfl : x = 256 := by omega
    go_wp2
    go_ret
    exact ⟨rfl, BR.out⟩
  · obtain rfl : n = len0 := by have := HN.out; omega
    have hlen' : ¬ (len1 : Int) < (n : Int) := by omega
    go_wp2_with (fail)
    all_goals first | (go_ret; exact ⟨rfl, Below.refl _ _⟩) | skip
    clear hlen hlen' HN
    go_loop [6] (fun i => ∃ k : Nat, k ≤ n ∧ i = .int .i64 k ∧ Hid (∀ j, j < k → vf l1 j ≤ 5)) (fun i => n - (intOf i).toNat)
    case atStart => exact ⟨0, by omega, rfl, Lib.hid (fun j h => absurd h (Nat.not_lt_zero _))⟩
    case round =>
    obtain ⟨k, hk, rfl, HF⟩ := hrel
    by_cases hkn : k < n
    · obtain ⟨x, rfl, hxb, cx, v0, v255⟩ := VC.out w k (Below.refl _ _) hkn
      have kn : (k : Int) < (len1 : Int) := by omega
      have kn2 : (k : Int) < (n : Int) := by omega
      obtain ⟨vv, hvv⟩ : ∃ vv, vv = vf l1 k := ⟨_, rfl⟩
      rw [← hvv] at cx v0 v255
      by_cases h5 : vv ≤ 5
      · have HH := Lib.hid hvv
        clear hvv
        go_wp2
        go_round
        case rel => exact ⟨k + 1, by omega, by go_num, Lib.hid (fun j h => by
          rcases Nat.lt_or_ge j k with g | g
          · exact HF.out j g
          · obtain rfl : j = k := by omega
            rw [← HH.out]; exact h5)⟩
        case measure => simp [intOf]; omega
      · clear hvv
        have h6 : 5 < vv := by omega
        go_wp2
        go_ret
        exact ⟨rfl, Below.refl _ _⟩
    have hke : k = n := by omega
    rw [hke] at HF ⊢
    clear hke hkn hk
    have V5 : Hid (∀ i, i < n → 0 ≤ vf l1 i ∧ vf l1 i ≤ 5) := Lib.hid (fun i hi => ⟨by obtain ⟨_, _, _, _, h, _⟩ := VC.out w i (Below.refl _ _) hi; exact h, HF.out i hi⟩)
    go_wp2
    go_loopw [8] (fun i wr => ∃ k : Nat, k ≤ n ∧ i = .int .i64 k ∧ Hid (MD wr w.heap.size k (Dm (kf l0) (vf l1) k)) ∧ Below w.heap.size w wr) (fun i _ => n - (intOf i).toNat)
    case atStart => exact ⟨0, by omega, rfl, Lib.hid (World.ownsMap_made w Try.prog 9 self), (Below.refl _ _).alloc (Nat.le_refl _) _⟩
    case round =>
    obtain ⟨k, hk, rfl, HM, hbel⟩ := hrel
    by_cases hkn : k < n
    · obtain ⟨x, rfl, hxb, cx, zx⟩ := KC.out wr k hbel hkn
      obtain ⟨y, rfl, hyb, cy, v0, v255⟩ := VC.out wr k hbel hkn
      have kn : (k : Int) < (n : Int) := by omega
      have kn1 : (k : Int) < (len1 : Int) := by omega
      have kn2 : (k : Int) < (n : Int) := by omega
      obtain ⟨ss, hss⟩ : ∃ ss, ss = kf l0 k := ⟨_, rfl⟩
      obtain ⟨vv, hvv⟩ : ∃ vv, vv = vf l1 k := ⟨_, rfl⟩
      rw [← hss] at cx zx
      rw [← hvv] at cy v0 v255
      obtain ⟨w5, hrun, ho5, hg5⟩ := (md_drew HM.out).update (val := .int .u8 vv) law9 Try.underlying26 (by unfold maxLen; omega) (WideMaps.keyOf_string_mk Try.underlying9 (s := ss) (by unfold maxLen; omega)) (d := .held (.int .u8 vv)) (ps := []) rfl
      have hws := hbel.size
      have hne : ∀ q : Nat, q < w.heap.size → some q ≠ some w.heap.size := fun q hq e => by have := Option.some.inj e; omega
      have cx5 : w5.cell? (x.add k) = some (.string ss) := by rw [← cx]; exact World.cell?_of_block (hg5.block _ (by rw [Sls.add_block]; show _ < wr.heap.size; omega) (hne _ (by rw [Sls.add_block]; exact hxb)))
      have cy5 : w5.cell? (y.add k) = some (.int .u8 vv) := by rw [← cy]; exact World.cell?_of_block (hg5.block _ (by rw [Sls.add_block]; show _ < wr.heap.size; omega) (hne _ (by rw [Sls.add_block]; exact hyb)))
      have N5 : Hid (MD w5 w.heap.size (k + 1) (Dm (kf l0) (vf l1) (k + 1))) := Lib.hid (by unfold Dm; rw [← hss, ← hvv]; exact ho5)
      have B5 := Lib.hid (hbel.drew.grown hg5 (show w.heap.size ≤ wr.drew.heap.size from hws) (fun q e => by have := Option.some.inj e; omega))
      clear ho5 hg5 hss hvv hbel
      go_wp2
      refine wp_region_held_drew (S := fun w' => w'.cell? (x.add k) = some (.string ss) ∧ w'.cell? (y.add k) = some (.int .u8 vv)) (by kernel_rfl) ⟨cx, cy⟩ (fun hHeld => ?_)
      refine wpAnyH_take (i := 0) (oi := { dst := some 65, op := Op.move (Operand.tmp 7), type := 26, pos := "laws_pkg_api_b1.go:114", after := #[], guard := none }) (v := ?_) rfl (by kernel_rfl) (by kernel_rfl) (by kernel_rfl) (fun _ _ _ h => h) (Or.inl ⟨by rfl, ?_⟩) (by assumption) ?_
      rotate_left
      · intro wq hSw
        obtain ⟨q1, q2⟩ := hSw
        go_simp
        try (with_reducible rfl)
      try go_frame
      refine wpAnyH_take (i := 1) (oi := { dst := some 66, op := Op.move (Operand.tmp 0), type := 22, pos := "laws_pkg_api_b1.go:114", after := #[], guard := none }) (v := ?_) rfl (by kernel_rfl) (by kernel_rfl) (by kernel_rfl) (fun _ _ _ h => h) (Or.inl ⟨by rfl, ?_⟩) (by assumption) ?_
      rotate_left
      · intro wq hSw
        obtain ⟨q1, q2⟩ := hSw
        go_simp
        try (with_reducible rfl)
      try go_frame
      refine wpAnyH_take (i := 2) (oi := { dst := some 67, op := Op.move (Operand.tmp 8), type := 3, pos := "laws_pkg_api_b1.go:114", after := #[], guard := none }) (v := ?_) rfl (by kernel_rfl) (by kernel_rfl) (by kernel_rfl) (fun _ _ _ h => h) (Or.inl ⟨by rfl, ?_⟩) (by assumption) ?_
      rotate_left
      · intro wq hSw
        obtain ⟨q1, q2⟩ := hSw
        go_simp
        try (with_reducible rfl)
      try go_frame
      refine wpAnyH_take (i := 3) (oi := { dst := some 68, op := Op.indexAddr 22 (Operand.tmp 66) (Operand.tmp 67), type := 0, pos := "laws_pkg_api_b1.go:114", after := #[{ on := 1, ground := Ground.data }, { on := 2, ground := Ground.data }], guard := none }) (v := ?_) rfl (by kernel_rfl) (by kernel_rfl) (by kernel_rfl) (fun _ _ _ h => h) (Or.inl ⟨by rfl, ?_⟩) (by assumption) ?_
      rotate_left
      · intro wq hSw
        obtain ⟨q1, q2⟩ := hSw
        go_simp
        try (with_reducible rfl)
      try go_frame
      refine wpAnyH_take (i := 4) (oi := { dst := some 69, op := Op.load 9 (Operand.tmp 68), type := 9, pos := "laws_pkg_api_b1.go:114", after := #[{ on := 3, ground := Ground.data }], guard := none }) (v := ?_) rfl (by kernel_rfl) (by kernel_rfl) (by kernel_rfl) (fun _ _ _ h => h) (Or.inl ⟨by rfl, ?_⟩) (by assumption) ?_
      rotate_left
      · intro wq hSw
        obtain ⟨q1, q2⟩ := hSw
        go_simp
        try (with_reducible rfl)
      try go_frame
      refine wpAnyH_take (i := 5) (oi := { dst := some 70, op := Op.move (Operand.tmp 1), type := 23, pos := "laws_pkg_api_b1.go:114", after := #[], guard := none }) (v := ?_) rfl (by kernel_rfl) (by kernel_rfl) (by kernel_rfl) (fun _ _ _ h => h) (Or.inl ⟨by rfl, ?_⟩) (by assumption) ?_
      rotate_left
      · intro wq hSw
        obtain ⟨q1, q2⟩ := hSw
        go_simp
        try (with_reducible rfl)
      try go_frame
      refine wpAnyH_take (i := 6) (oi := { dst := some 71, op := Op.move (Operand.tmp 8), type := 3, pos := "laws_pkg_api_b1.go:114", after := #[], guard := none }) (v := ?_) rfl (by kernel_rfl) (by kernel_rfl) (by kernel_rfl) (fun _ _ _ h => h) (Or.inl ⟨by rfl, ?_⟩) (by assumption) ?_
      rotate_left
      · intro wq hSw
        obtain ⟨q1, q2⟩ := hSw
        go_simp
        try (with_reducible rfl)
      try go_frame
      refine wpAnyH_take (i := 7) (oi := { dst := some 72, op := Op.indexAddr 23 (Operand.tmp 70) (Operand.tmp 71), type := 0, pos := "laws_pkg_api_b1.go:114", after := #[{ on := 5, ground := Ground.data }, { on := 6, ground := Ground.data }], guard := none }) (v := ?_) rfl (by kernel_rfl) (by kernel_rfl) (by kernel_rfl) (fun _ _ _ h => h) (Or.inl ⟨by rfl, ?_⟩) (by assumption) ?_
      rotate_left
      · intro wq hSw
        obtain ⟨q1, q2⟩ := hSw
        go_simp
        try (with_reducible rfl)
      try go_frame
      refine wpAnyH_take (i := 8) (oi := { dst := some 73, op := Op.load 5 (Operand.tmp 72), type := 5, pos := "laws_pkg_api_b1.go:114", after := #[{ on := 7, ground := Ground.data }], guard := none }) (v := ?_) rfl (by kernel_rfl) (by kernel_rfl) (by kernel_rfl) (fun _ _ _ h => h) (Or.inl ⟨by rfl, ?_⟩) (by assumption) ?_
      rotate_left
      · intro wq hSw
        obtain ⟨q1, q2⟩ := hSw
        go_simp
        try (with_reducible rfl)
      try go_frame
      refine wpAnyH_ready (rs := [9]) (by kernel_rfl) (by simp) ?_
      refine AllReadyH.cons rfl (fun K hK => ?_) AllReadyH.nil
      go_simp
      refine hK.out _ _ ⟨cx5, cy5⟩ (fun hHeld => ?_)
      clear hK K
      try go_frame
      refine wpAnyH_done (by kernel_rfl) ?_ _
      clear hrun cx cy cx5 cy5
      go_wp2
      go_roundw
      case rel => exact ⟨k + 1, by omega, by go_num, N5, B5.out⟩
      case measure => simp [intOf]; omega
    have hke : k = n := by omega
    rw [hke] at HM ⊢
    clear hke hkn hk
    have HBM := Lib.hid hbel
    have hws := hbel.size
    have hbm := HM.out.lt
    clear hbel
    have VL := Lib.hid (val7 w.heap.size n (Dm (kf l0) (vf l1) n) wr HM.out (Dm_good n V5.out) (Nat.le_trans HM.out.size_le (by omega)))
    obtain ⟨V, hV⟩ := levels (ks := kf l0) (vs := vf l1) n V5.out
    have HV := Lib.hid hV
    clear hV
    go_wp2_with (fail)
    refine VL.out.mono ?_
    rintro e w9 ⟨DU, mU, rfl, oU, _, cU, bU⟩
    have HU := Lib.hid oU; have HC := Lib.hid cU
    have BU := Lib.hid (below_join HBM.out HBM.out.size bU)
    have HM9 : Hid (MD w9 w.heap.size n (Dm (kf l0) (vf l1) n)) := Lib.hid (md_block HM.out (bU.block _ hbm))
    have hu9 := oU.lt
    have hz9 := bU.size
    obtain ⟨U, hU⟩ : ∃ U, U = wr.heap.size := ⟨_, rfl⟩
    rw [← hU] at HU hu9 hz9 ⊢
    have hUw : w.heap.size < U := by omega
    clear oU cU bU hU VL
    have hms : ∀ wz : World, (Instr.makeSlice 30 (.int .i64 (n : Int)) (.int .i64 (n : Int))).run Try.prog wz = .ok (.slice (some ⟨wz.heap.size, 0, none⟩) n n) (wz.alloc (.cells (madeCells #[.map none] n) 28)) := by
      intro wz
      obtain ⟨i0, hi, hz0, hz1, hz2⟩ := info_parts info28
      have := run_make (P := Try.prog) wz 30 28 i0 _ Try.underlying30 hi hz0 .i64 .i64 n n (by omega) (by omega) (by rw [hz2]; omega) (by omega)
      rw [hz1, Nat.mul_one] at this
      exact this
    go_wp2
    clear hms
    have RZ : Hid ((w9.alloc (.cells (madeCells #[.map none] n) 28)).rowIs w9.heap.size 28 n (fun _ => .map none)) := Lib.hid (World.rowIs_made w9 (.map none) n 28)
    go_loopw [11] (fun i wr => ∃ k : Nat, k ≤ n ∧ i = .int .i64 k ∧ Hid (∃ f, wr.rowIs w9.heap.size 28 n f ∧ ∀ j, j < k → ∃ (b : Nat) (D : DataW Value) (m : Nat), f j = .map (some b) ∧ OM wr b m D ∧ Key (kf l0 j) (V j) D ∧ w9.heap.size < b) ∧ Hid (OM wr U mU DU) ∧ Hid (MD wr w.heap.size n (Dm (kf l0) (vf l1) n)) ∧ Below w.heap.size w wr) (fun i _ => n - (intOf i).toNat)
    case atStart => exact ⟨0, by omega, rfl, Lib.hid ⟨_, RZ.out, fun j h => absurd h (Nat.not_lt_zero _)⟩, Lib.hid (om_block HU.out (blk_alloc_lt _ _ _ hu9)), Lib.hid (md_block HM9.out (blk_alloc_lt _ _ _ HM9.out.lt)), BU.out.alloc BU.out.size _⟩
    case round =>
    obtain ⟨k, hk, rfl, HS, HUr, HMr, hbel⟩ := hrel
    by_cases hkn : k < n
    · obtain ⟨x, rfl, hxb, cx, zx⟩ := KC.out wr k hbel hkn
      obtain ⟨v0, v5, hat⟩ := HV.out k hkn
      have kn : (k : Int) < (n : Int) := by omega
      have kn2 : (k : Int) < (n : Int) := by omega
      obtain ⟨ss, hss⟩ : ∃ ss, ss = kf l0 k := ⟨_, rfl⟩
      obtain ⟨vv, hvv⟩ : ∃ vv, vv = V k := ⟨_, rfl⟩
      rw [← hss] at cx zx hat
      rw [← hvv] at hat v0 v5
      have HAT := Lib.hid hat
      obtain ⟨f, hrow, hS⟩ := HS.out
      have hws := hbel.size
      have h9r : w9.heap.size < wr.heap.size := hrow.lt
      have hzs : ss.size ≤ maxLen := by unfold maxLen; omega
      obtain ⟨w5, hrun, ho5, hg5⟩ := (md_drew (World.ownsMap_made wr Try.prog 9 self)).update (val := .int .u8 vv) law9 Try.underlying26 (by unfold maxLen; omega) (WideMaps.keyOf_string_mk Try.underlying9 (s := ss) hzs) (d := .held (.int .u8 vv)) (ps := []) rfl
      have N5 : Hid (MD w5 wr.heap.size 1 (D1 ss vv)) := Lib.hid ho5
      have hz5 : wr.heap.size + 1 ≤ w5.heap.size := by have := hg5.size; simpa using this
      have e5 : ∀ q, q < wr.heap.size → w5.heap[q]? = wr.heap[q]? := fun q hq => (hg5.block q (by show q < (wr.alloc (.map #[] 0)).heap.size; rw [World.size_alloc]; omega) (by intro e; have := Option.some.inj e; omega)).trans (blk_alloc_lt _ _ _ hq)
      have HE5 := Lib.hid e5
      have cx5 : w5.cell? (x.add k) = some (.string ss) := by rw [← cx]; exact World.cell?_of_block (e5 _ (by rw [Sls.add_block]; omega))
      have cx1 : ∀ o, ((wr.alloc o).drew).cell? (x.add k) = some (.string ss) := fun o => by rw [← cx]; exact World.cell?_of_block (blk_alloc_lt _ _ _ (by rw [Sls.add_block]; omega))
      have b1 : ∀ o, ((wr.alloc o).drew).heap[w.heap.size]? = wr.heap[w.heap.size]? := fun o => blk_alloc_lt _ _ _ (by omega)
      have BR := Lib.hid hbel
      have B5 := Lib.hid (((hbel.alloc hws (.map #[] 0)).drew).grown hg5 (show w.heap.size ≤ (wr.alloc (.map #[] 0)).heap.size by rw [World.size_alloc]; omega) (fun q e => by have := Option.some.inj e; omega))
      have HR := Lib.hid hrow
      have HSS := Lib.hid hS
      have HK1 := Lib.hid hss; have HK2 := Lib.hid hvv
      clear ho5 hg5 hss hvv hbel e5 hat hrow hS HS
      go_wp2
      refine wp_region_held_drew (S := fun w' => w'.cell? (x.add k) = some (.string ss) ∧ w'.heap[w.heap.size]? = wr.heap[w.heap.size]?) (by kernel_rfl) ⟨cx, rfl⟩ (fun hHeld => ?_)
      refine wpAnyH_take (i := 1) (oi := { dst := some 86, op := Op.move (Operand.tmp 0), type := 22, pos := "laws_pkg_api_b1.go:122", after := #[], guard := none }) (v := ?_) rfl (by kernel_rfl) (by kernel_rfl) (by kernel_rfl) (fun _ _ _ h => h) (Or.inl ⟨by rfl, ?_⟩) (by assumption) ?_
      rotate_left
      · intro wq hSw
        obtain ⟨q1, q2⟩ := hSw
        go_simp
        try (with_reducible rfl)
      try go_frame
      refine wpAnyH_take (i := 2) (oi := { dst := some 87, op := Op.move (Operand.tmp 11), type := 3, pos := "laws_pkg_api_b1.go:122", after := #[], guard := none }) (v := ?_) rfl (by kernel_rfl) (by kernel_rfl) (by kernel_rfl) (fun _ _ _ h => h) (Or.inl ⟨by rfl, ?_⟩) (by assumption) ?_
      rotate_left
      · intro wq hSw
        obtain ⟨q1, q2⟩ := hSw
        go_simp
        try (with_reducible rfl)
      try go_frame
      refine wpAnyH_take (i := 3) (oi := { dst := some 88, op := Op.indexAddr 22 (Operand.tmp 86) (Operand.tmp 87), type := 0, pos := "laws_pkg_api_b1.go:122", after := #[{ on := 1, ground := Ground.data }, { on := 2, ground := Ground.data }], guard := none }) (v := ?_) rfl (by kernel_rfl) (by kernel_rfl) (by kernel_rfl) (fun _ _ _ h => h) (Or.inl ⟨by rfl, ?_⟩) (by assumption) ?_
      rotate_left
      · intro wq hSw
        obtain ⟨q1, q2⟩ := hSw
        go_simp
        try (with_reducible rfl)
      try go_frame
      refine wpAnyH_take (i := 4) (oi := { dst := some 89, op := Op.load 9 (Operand.tmp 88), type := 9, pos := "laws_pkg_api_b1.go:122", after := #[{ on := 3, ground := Ground.data }], guard := none }) (v := ?_) rfl (by kernel_rfl) (by kernel_rfl) (by kernel_rfl) (fun _ _ _ h => h) (Or.inl ⟨by rfl, ?_⟩) (by assumption) ?_
      rotate_left
      · intro wq hSw
        obtain ⟨q1, q2⟩ := hSw
        go_simp
        try (with_reducible rfl)
      try go_frame
      refine wpAnyH_take (i := 5) (oi := { dst := some 90, op := Op.move (Operand.tmp 7), type := 26, pos := "laws_pkg_api_b1.go:122", after := #[], guard := none }) (v := ?_) rfl (by kernel_rfl) (by kernel_rfl) (by kernel_rfl) (fun _ _ _ h => h) (Or.inl ⟨by rfl, ?_⟩) (by assumption) ?_
      rotate_left
      · intro wq hSw
        obtain ⟨q1, q2⟩ := hSw
        go_simp
        try (with_reducible rfl)
      try go_frame
      refine wpAnyH_take (i := 6) (oi := { dst := some 91, op := Op.move (Operand.tmp 0), type := 22, pos := "laws_pkg_api_b1.go:122", after := #[], guard := none }) (v := ?_) rfl (by kernel_rfl) (by kernel_rfl) (by kernel_rfl) (fun _ _ _ h => h) (Or.inl ⟨by rfl, ?_⟩) (by assumption) ?_
      rotate_left
      · intro wq hSw
        obtain ⟨q1, q2⟩ := hSw
        go_simp
        try (with_reducible rfl)
      try go_frame
      refine wpAnyH_take (i := 7) (oi := { dst := some 92, op := Op.move (Operand.tmp 11), type := 3, pos := "laws_pkg_api_b1.go:122", after := #[], guard := none }) (v := ?_) rfl (by kernel_rfl) (by kernel_rfl) (by kernel_rfl) (fun _ _ _ h => h) (Or.inl ⟨by rfl, ?_⟩) (by assumption) ?_
      rotate_left
      · intro wq hSw
        obtain ⟨q1, q2⟩ := hSw
        go_simp
        try (with_reducible rfl)
      try go_frame
      refine wpAnyH_take (i := 8) (oi := { dst := some 93, op := Op.indexAddr 22 (Operand.tmp 91) (Operand.tmp 92), type := 0, pos := "laws_pkg_api_b1.go:122", after := #[{ on := 6, ground := Ground.data }, { on := 7, ground := Ground.data }], guard := none }) (v := ?_) rfl (by kernel_rfl) (by kernel_rfl) (by kernel_rfl) (fun _ _ _ h => h) (Or.inl ⟨by rfl, ?_⟩) (by assumption) ?_
      rotate_left
      · intro wq hSw
        obtain ⟨q1, q2⟩ := hSw
        go_simp
        try (with_reducible rfl)
      try go_frame
      refine wpAnyH_take (i := 9) (oi := { dst := some 94, op := Op.load 9 (Operand.tmp 93), type := 9, pos := "laws_pkg_api_b1.go:122", after := #[{ on := 8, ground := Ground.data }], guard := none }) (v := ?_) rfl (by kernel_rfl) (by kernel_rfl) (by kernel_rfl) (fun _ _ _ h => h) (Or.inl ⟨by rfl, ?_⟩) (by assumption) ?_
      rotate_left
      · intro wq hSw
        obtain ⟨q1, q2⟩ := hSw
        go_simp
        try (with_reducible rfl)
      try go_frame
      refine wpAnyH_take (i := 10) (oi := { dst := some 95, op := Op.lookup 26 (Operand.tmp 90) (Operand.tmp 94) false, type := 27, pos := "laws_pkg_api_b1.go:122", after := #[{ on := 5, ground := Ground.data }, { on := 9, ground := Ground.data }], guard := none }) (v := ?_) rfl (by kernel_rfl) (by kernel_rfl) (by kernel_rfl) (fun _ _ _ h => h) (Or.inl ⟨by rfl, ?_⟩) (by assumption) ?_
      rotate_left
      · intro wq hSw
        obtain ⟨q1, q2⟩ := hSw
        have q3 := look26 (md_block HMr.out q2) hzs HAT.out
        go_simp
        try (with_reducible rfl)
      try go_frame
      refine wpAnyH_ready (rs := [0]) (by kernel_rfl) (by simp) ?_
      refine AllReadyH.cons rfl (fun K hK => ?_) AllReadyH.nil
      go_simp
      refine hK.out _ _ ⟨cx1 _, b1 _⟩ (fun hHeld => ?_)
      clear hK K
      try go_frame
      refine wpAnyH_ready (rs := [11]) (by kernel_rfl) (by simp) ?_
      refine AllReadyH.cons rfl (fun K hK => ?_) AllReadyH.nil
      go_simp
      refine hK.out _ _ ⟨cx5, HE5.out _ (by omega)⟩ (fun hHeld => ?_)
      clear hK K
      try go_frame
      refine wpAnyH_take (i := 12) (oi := { dst := some 96, op := Op.move (Operand.tmp 85), type := 26, pos := "laws_pkg_api_b1.go:122", after := #[{ on := 0, ground := Ground.data }, { on := 1, ground := Ground.data }, { on := 2, ground := Ground.data }, { on := 3, ground := Ground.data }, { on := 4, ground := Ground.data }, { on := 5, ground := Ground.data }, { on := 6, ground := Ground.data }, { on := 7, ground := Ground.data }, { on := 8, ground := Ground.data }, { on := 9, ground := Ground.data }, { on := 10, ground := Ground.data }, { on := 11, ground := Ground.data }], guard := none }) (v := ?_) rfl (by kernel_rfl) (by kernel_rfl) (by kernel_rfl) (fun _ _ _ h => h) (Or.inl ⟨by rfl, ?_⟩) (by assumption) ?_
      rotate_left
      · intro wq hSw
        have q1 := hSw.1
        go_simp
        try (with_reducible rfl)
      try go_frame
      refine wpAnyH_take (i := 13) (oi := { dst := some 12, op := Op.assign (Operand.tmp 96), type := 26, pos := "laws_pkg_api_b1.go:122", after := #[{ on := 12, ground := Ground.data }, { on := 0, ground := Ground.phase }, { on := 1, ground := Ground.phase }, { on := 2, ground := Ground.phase }, { on := 3, ground := Ground.phase }, { on := 4, ground := Ground.phase }, { on := 5, ground := Ground.phase }, { on := 6, ground := Ground.phase }, { on := 7, ground := Ground.phase }, { on := 8, ground := Ground.phase }, { on := 9, ground := Ground.phase }, { on := 10, ground := Ground.phase }, { on := 11, ground := Ground.phase }, { on := 12, ground := Ground.phase }], guard := none }) (v := ?_) rfl (by kernel_rfl) (by kernel_rfl) (by kernel_rfl) (fun _ _ _ h => h) (Or.inl ⟨by rfl, ?_⟩) (by assumption) ?_
      rotate_left
      · intro wq hSw
        have q1 := hSw.1
        go_simp
        try (with_reducible rfl)
      try go_frame
      refine wpAnyH_done (by kernel_rfl) ?_ _
      clear hrun cx cx5 cx1 b1
      go_wp2_with (fail)
      refine (one7 ss vv wr.heap.size 1 w5 N5.out v0 v5).mono ?_
      rintro e w6 ⟨DO, mO, rfl, oO, kO, bO⟩
      have hb6 := oO.lt
      have R6 : w6.rowIs w9.heap.size 28 n f := HR.out.of_block ((bO.block _ (by omega)).trans (HE5.out _ h9r))
      have d6 := R6.cell (i := k) hkn
      have f6 := R6.frozen k
      have e7 : ∀ q, q < wr.heap.size → q ≠ w9.heap.size → (w6.setCell ⟨w9.heap.size, k, none⟩ (.map (some w5.heap.size))).heap[q]? = wr.heap[q]? := fun q hq hne => (blk_setCell_other _ _ _ _ hne).trans ((bO.block _ (by omega)).trans (HE5.out _ hq))
      have NS : Hid (∃ f, (w6.setCell ⟨w9.heap.size, k, none⟩ (.map (some w5.heap.size))).rowIs w9.heap.size 28 n f ∧ ∀ j, j < k + 1 → ∃ (b : Nat) (D : DataW Value) (m : Nat), f j = .map (some b) ∧ OM (w6.setCell ⟨w9.heap.size, k, none⟩ (.map (some w5.heap.size))) b m D ∧ Key (kf l0 j) (V j) D ∧ w9.heap.size < b) := Lib.hid ⟨_, R6.set k (.map (some w5.heap.size)), fun j hj => by
        rcases Nat.lt_or_ge j k with g | g
        · obtain ⟨b, D, m, q1, q2, q3, q4⟩ := HSS.out j g
          have hbl := q2.lt
          exact ⟨b, D, m, by rw [if_neg (by omega)]; exact q1, om_block q2 (e7 b hbl (by omega)), q3, q4⟩
        · obtain rfl : j = k := by omega
          exact ⟨w5.heap.size, DO, mO, if_pos rfl, om_block oO (blk_setCell_other _ _ _ _ (by show w5.heap.size ≠ w9.heap.size; omega)), by rw [← HK1.out, ← HK2.out]; exact kO, by omega⟩⟩
      have NU : Hid (OM (w6.setCell ⟨w9.heap.size, k, none⟩ (.map (some w5.heap.size))) U mU DU) := Lib.hid (om_block HUr.out (e7 U HUr.out.lt (by omega)))
      have NM : Hid (MD (w6.setCell ⟨w9.heap.size, k, none⟩ (.map (some w5.heap.size))) w.heap.size n (Dm (kf l0) (vf l1) n)) := Lib.hid (md_block HMr.out (e7 _ HMr.out.lt (by omega)))
      have NB := Lib.hid ((below_join B5.out (by omega) bO).setCell (show w.heap.size ≤ (⟨w9.heap.size, k, none⟩ : Addr).block by show w.heap.size ≤ w9.heap.size; omega) (.map (some w5.heap.size)))
      clear oO kO bO R6 e7
      go_wp2
      go_roundw
      case rel => exact ⟨k + 1, by omega, by go_num, NS, NU, NM, NB.out⟩
      case measure => simp [intOf]; omega
    have hke : k = n := by omega
    rw [hke] at HS ⊢
    clear hke hkn hk
    have BR := Lib.hid hbel
    clear hbel RZ HBM BU HM9
    obtain ⟨f, hrow, hS⟩ := HS.out
    have HR := Lib.hid hrow; have HSS := Lib.hid hS
    clear hrow hS HS HMr
    go_wp2
    go_loop [13] (fun i => ∃ x : Nat, x ≤ 256 ∧ i = .int .i64 x) (fun i => 256 - (intOf i).toNat)
    case atStart => exact ⟨0, by omega, rfl⟩
    case round =>
    obtain ⟨x, hx, rfl⟩ := hrel
    by_cases hx2 : x < 256
    · have x3 : (x : Int) < 256 := by omega
      have x4 : (0 : Int) ≤ (x : Int) := by omega
      rcases union HV.out HC.out (x : Int) with ⟨hh, j0, hj0, hin, hval⟩ | ⟨hh, hno⟩
      · have q0 := look_at HUr.out (x := (x : Int)) (by omega) (by omega) hh hval
        have HIN := Lib.hid hin
        obtain ⟨L, hL⟩ : ∃ L, L = lvl (V j0) := ⟨_, rfl⟩
        rw [← hL] at q0
        have HLL := Lib.hid hL
        clear hh hin hval hL
        go_wp2_with (fail)
        go_loop [17, 18, 19] (fun a b i => Ja n j0 a b i) (fun _ _ i => n - (intOf i).toNat)
        case atStart => exact ⟨0, false, false, by omega, rfl, rfl, rfl, fun h => absurd h (Nat.not_lt_zero _)⟩
        case round =>
        obtain ⟨k, fb, mb, hk, rfl, rfl, rfl, hfm⟩ := hrel
        have HFM := Lib.hid hfm
        clear hfm
        by_cases hkn : k < n
        · have k2 : (k : Int) < (n : Int) := by omega
          have k3 : (0 : Int) ≤ (k : Int) := by omega
          obtain ⟨bk, Dk, mk, s1, s2, s3, s4⟩ := HSS.out k hkn
          have ck : wr.cell? ⟨w9.heap.size, k, none⟩ = some (.map (some bk)) := (HR.out.cell hkn).trans (by rw [s1])
          by_cases hxk : (x : Int) ∈ ids (kf l0 k)
          · have q1 := look_in s2 s3 (x := (x : Int)) (by omega) (by omega) hxk
            obtain ⟨L2, hL2⟩ : ∃ L2, L2 = lvl (V k) := ⟨_, rfl⟩
            rw [← hL2] at q1
            have HL2 := Lib.hid hL2
            clear hL2 s1 s2 s3 s4 hxk
            by_cases hq : L2 = L
            · have e : (L2 == L) = true := by simp [hq]
              clear hq
              go_wp2
              exact ⟨⟨k + 1, true, true, by omega, rfl, rfl, by go_num, fun _ => ⟨rfl, rfl⟩⟩, by simp [intOf]; omega⟩
            · have e : (L2 == L) = false := by simp [hq]
              have HQ := Lib.hid hq
              clear hq
              go_wp2
              exact ⟨⟨k + 1, true, mb, by omega, rfl, rfl, by go_num, fun h => by
                have hne : k ≠ j0 := fun e => HQ.out (by rw [HL2.out, HLL.out, e])
                exact ⟨rfl, (HFM.out (by omega)).2⟩⟩, by simp [intOf]; omega⟩
          · obtain ⟨u2, q1⟩ := look_out s2 s3 (x := (x : Int)) (by omega) (by omega) hxk
            have HXK := Lib.hid hxk
            clear s1 s2 s3 s4 hxk
            go_wp2
            exact ⟨⟨k + 1, fb, mb, by omega, rfl, rfl, by go_num, fun h => HFM.out (by
              have hne : k ≠ j0 := fun e => HXK.out (by rw [e]; exact HIN.out)
              omega)⟩, by simp [intOf]; omega⟩
        obtain rfl : k = n := by omega
        obtain ⟨rfl, rfl⟩ := HFM.out hj0
        go_wp2
        exact ⟨⟨x + 1, by omega, by go_num⟩, by simp [intOf]; omega⟩
      · obtain ⟨u, q0⟩ := look_no HUr.out (x := (x : Int)) (by omega) (by omega) hh
        have HNO := Lib.hid hno
        clear hh hno
        go_wp2_with (fail)
        go_loop [17, 18, 19] (fun a b i => ∃ k : Nat, k ≤ n ∧ a = .bool false ∧ b = .bool false ∧ i = .int .i64 k) (fun _ _ i => n - (intOf i).toNat)
        case atStart => exact ⟨0, by omega, rfl, rfl, rfl⟩
        case round =>
        obtain ⟨k, hk, rfl, rfl, rfl⟩ := hrel
        by_cases hkn : k < n
        · have k2 : (k : Int) < (n : Int) := by omega
          have k3 : (0 : Int) ≤ (k : Int) := by omega
          obtain ⟨bk, Dk, mk, s1, s2, s3, s4⟩ := HSS.out k hkn
          have ck : wr.cell? ⟨w9.heap.size, k, none⟩ = some (.map (some bk)) := (HR.out.cell hkn).trans (by rw [s1])
          obtain ⟨u2, q1⟩ := look_out s2 s3 (x := (x : Int)) (by omega) (by omega) (HNO.out k hkn)
          clear s1 s2 s3 s4
          go_wp2
          exact ⟨⟨k + 1, by omega, rfl, rfl, by go_num⟩, by simp [intOf]; omega⟩
        obtain rfl : k = n := by omega
        go_wp2
        exact ⟨⟨x + 1, by omega, by go_num⟩, by simp [intOf]; omega⟩
    obtain rfl : x = 256 := by omega
    go_wp2
    go_ret
    exact ⟨rfl, BR.out⟩

set_option maxRecDepth 20000 in
theorem walk (a0 : Option Addr) (len0 cap0 : Nat) (z0 : List ByteArray) (a1 : Option Addr) (len1 cap1 : Nat) (z1 : List Int) (w : World) (w0 : IsStrs w a0 len0 cap0 z0) (w1 : IsRow .u8 w a1 len1 cap1 z1) :
    Calls Try.prog 3 #[.slice a0 len0 cap0, .slice a1 len1 cap1] w fun e w' => e = .returned (.bool true) ∧ Below w.heap.size w w' := by
  obtain ⟨⟨l0, L0, r0, m0⟩, e0, g0⟩ := rd_of_strs w0
  obtain ⟨⟨l1, L1, r1⟩, e1, g1⟩ := rd_of_bytes w1
  have hy := bytesu a0 len0 cap0 l0 a1 len1 cap1 w L0 g0 r0 m0 g1
  by_cases hz : (len0 + tot l0) + len1 ≤ 1048576
  · have k0 : ∀ s ∈ l0, s.size ≤ 1048576 := by
      intro s hs
      obtain ⟨i, hi, rfl⟩ := List.getElem_of_mem hs
      have := tot_mem l0 i hi
      omega
    have hy' : Calls Try.prog 5 #[.slice a0 len0 cap0, .slice a1 len1 cap1] w (Bd True w) := hy.mono fun e w' h => by
      obtain ⟨b, h1, _, h3⟩ := h
      exact ⟨b, h1, fun _ => trivial, h3⟩
    by_cases hn : len0 ≤ 4096 ∧ len1 ≤ 4096
    · exact main a0 a1 len0 cap0 len1 cap1 l0 l1 w _ rfl L0 L1 hn.1 hn.2 r0 r1 k0 hy'
    · have HY := Lib.hid hy'
      have d0 : 4096 < len0 ∨ (len0 ≤ 4096 ∧ 4096 < len1) := by omega
      have n0 : len0 ≤ 1048576 := by omega
      have n1 : len1 ≤ 1048576 := by omega
      clear hy hy' w0 w1 L0 r0 e0 g0 L1 r1 m0 e1 g1 hz hn k0
      rcases d0 with d | ⟨d, d'⟩
      all_goals
        go_enter Try.func3, Try.ntmps3
        go_wp2_with fail
        refine HY.out.mono ?_
        rintro e w' ⟨b, rfl, _, rfl⟩
        cases b
        · go_wp2
          go_ret
          exact ⟨rfl, Below.refl _ _⟩
        · go_wp2
          go_ret
          exact ⟨rfl, Below.refl _ _⟩
  · have H := Lib.hid hy
    have HZ := Lib.hid hz
    clear hy hz w0 w1 L0 r0 e0 g0 L1 r1 m0 e1 g1
    go_enter Try.func3, Try.ntmps3
    go_wp2_with fail
    refine H.out.mono ?_
    rintro e w' ⟨b, rfl, hb, rfl⟩
    cases b
    · clear hb
      go_wp2
      go_ret
      exact ⟨rfl, Below.refl _ _⟩
    · exact absurd (hb rfl) HZ.out
end Go.Proofs.Ytolajhmfhndamaa.fnLogOverridesUnion
