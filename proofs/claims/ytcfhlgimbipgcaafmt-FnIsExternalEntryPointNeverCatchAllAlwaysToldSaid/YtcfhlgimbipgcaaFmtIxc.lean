/- zzBuild by its contract: a map (or none) and a slice of pairs of its own. Conditions: lengths. -/
import Derived.Test.YtcfhlgimbipgcaaFmtIxb
import Derived.Deep.RegionWith
namespace Go.Proofs.YtcfhlgimbipgcaaFmt.Ixc
open Go.RowKit Go.Deep Go.Proofs.YtcfhlgimbipgcaaFmt.Base Go.Proofs.YtcfhlgimbipgcaaFmt.Sls Go.Proofs.YtcfhlgimbipgcaaFmt.Mps Go.Proofs.YtcfhlgimbipgcaaFmt.Ixa Go.Proofs.YtcfhlgimbipgcaaFmt.Ixb
set_option linter.unusedVariables false
attribute [local go_sem ↓] Go.wp_at_zero Go.wp_at_succ
theorem make26 (n : Nat) (w : World) : (Instr.makeMap 26 (some (.int .i64 (n : Int)))).run Tryf.prog w = .ok (.map (some w.heap.size)) (w.alloc (.map #[] 0)) := by kernel_rfl
theorem info32 : (Tryf.prog.info? 32).map (fun i => (i.zero, i.size, i.bytes)) = some (some (.agg #[.string { data := #[] }, .string { data := #[] }]), 2, 32) := by kernel_rfl
def two (x y : Value) : Nat → Value
  | 0 => x
  | _ => y
theorem row2 (x y : Value) (t : TypeId) (w : World) : (w.alloc (.cells #[x, y] t)).rowIs w.heap.size t 2 (two x y) :=
  World.rowIs_alloc w #[x, y] t _ (fun i hi => by
    match i, hi with
    | 0, _ => rfl
    | 1, _ => rfl)
theorem Pw.less {w : World} {b b' : Nat} {v : Value} {l : List (ByteArray × ByteArray)} (h : Pw w b v l) (hb : b' ≤ b) : Pw w b' v l := by
  obtain ⟨hl, h⟩ := h
  refine ⟨hl, ?_⟩
  rcases h with h | ⟨g, cap, cur, rfl, h1, r⟩
  · exact .inl h
  · exact .inr ⟨g, cap, cur, rfl, by omega, r⟩
/-- A map of the call's own, or none. -/
def Mp (w : World) (base : Nat) (M : Value) : Prop := M = .map none ∨ ∃ b n f, M = .map (some b) ∧ base ≤ b ∧ n ≤ 1048576 ∧ MapIs Tryf.prog 9 w b n f
def Bo (l : List (ByteArray × ByteArray)) : Prop := ∀ q ∈ l, q.1.size ≤ 1048576 ∧ q.2.size ≤ 1048576
def Bld (w : World) (e : Ending) (w' : World) : Prop := ∃ M v l, e = .returned (.agg #[M, v]) ∧ Mp w' w.heap.size M ∧ Pw w' w.heap.size v l ∧ l.length ≤ 1048576 ∧ Bo l ∧ (∀ q, M = .map (some q) → v.ownBlock ≠ some q) ∧ Below w.heap.size w w'
set_option maxRecDepth 20000 in
set_option maxHeartbeats 4000000 in
theorem build_some (A0 : Option Addr) (n0 c0 : Nat) (l0 : List ByteArray) (A1 : Option Addr) (n1 c1 : Nat) (l1 : List ByteArray) (A2 : Option Addr) (n2 c2 : Nat) (l2 : List ByteArray) (w : World) (L0 : l0.length = n0) (g0 : n0 ≤ 1048576) (r0 : Rd w w.heap.size A0 (sv l0)) (m0 : ∀ s ∈ l0, s.size ≤ 1048576) (L1 : l1.length = n1) (g1 : n1 ≤ 1048576) (r1 : Rd w w.heap.size A1 (sv l1)) (m1 : ∀ s ∈ l1, s.size ≤ 1048576) (L2 : l2.length = n2) (g2 : n2 ≤ 1048576) (r2 : Rd w w.heap.size A2 (sv l2)) (m2 : ∀ s ∈ l2, s.size ≤ 1048576) (h0 : 0 < n0) :
    Calls Tryf.prog 6 #[.slice A0 n0 c0, .slice A1 n1 c1, .slice A2 n2 c2] w (Bld w) := by
  have hmm := make26
  have g0' := Lib.hid g0
  have HL0 := Lib.hid L0; have R0 := Lib.hid r0; have M0 := Lib.hid m0
  have HL1 := Lib.hid L1; have R1 := Lib.hid r1; have M1 := Lib.hid m1
  have HL2 := Lib.hid L2; have R2 := Lib.hid r2; have M2 := Lib.hid m2
  clear L0 r0 m0 L1 r1 m1 L2 r2 m2
  have h0' : (0 : Int) < (n0 : Int) := by omega
  have RA := Lib.hid (fun (o1 o2 : Obj) => ((row2 (.map none) (.slice none 0 0) 29 w).alloc o1).alloc o2)
  have RB : Hid (∀ o0 o2 : Obj, (((w.alloc o0).alloc (.cells #[.map (some (w.heap.size + 1 + 1)), .slice none 0 0] 29)).alloc o2).rowIs (w.heap.size + 1) 29 2 (two (.map (some (w.heap.size + 1 + 1))) (.slice none 0 0))) := Lib.hid fun o0 o2 => by
    have := row2 (.map (some (w.heap.size + 1 + 1))) (.slice none 0 0) 29 (w.alloc o0)
    rw [World.size_alloc] at this
    exact this.alloc _
  have RC : Hid (∀ o0 o1 : Obj, MapIs Tryf.prog 9 (((w.alloc o0).alloc o1).alloc (.map #[] 0)) (w.heap.size + 1 + 1) 0 (fun _ => none)) := Lib.hid fun o0 o1 => by
    have := MapIs.made Tryf.prog 9 ((w.alloc o0).alloc o1)
    rw [World.size_alloc, World.size_alloc] at this
    exact this
  go_enter Tryf.func6, Tryf.ntmps6
  go_wp2
  go_loopw [8] (fun i wr => ∃ k : Nat, k ≤ n0 ∧ i = .int .i64 k ∧ Hid (∃ f, MapIs Tryf.prog 9 wr (w.heap.size + 1 + 1) k f) ∧ wr.rowIs (w.heap.size + 1) 29 2 (two (.map (some (w.heap.size + 1 + 1))) (.slice none 0 0)) ∧ wr.rowIs w.heap.size 29 2 (two (.map none) (.slice none 0 0)) ∧ Below w.heap.size w wr) (fun i _ => n0 - (intOf i).toNat)
  case atStart => exact ⟨0, by omega, rfl, Lib.hid ⟨_, RC.out _ _⟩, RB.out _ _, RA.out _ _, (((Below.refl _ _).alloc (Nat.le_refl _) _).alloc (by simp only [World.size_alloc]; omega) _).alloc (by simp only [World.size_alloc]; omega) _⟩
  case round =>
  obtain ⟨k, hk, rfl, HM, HR7, HR6, hbel⟩ := hrel
  by_cases hlt : k < n0
  · have kl : k < l0.length := by rw [HL0.out]; exact hlt
    obtain ⟨x, rfl, hxb, cx⟩ := (R0.out.below hbel).at_ (sv_at l0 k kl)
    have z1 := M0.out _ (List.getElem_mem kl)
    obtain ⟨s, hs⟩ : ∃ s, s = l0[k] := ⟨_, rfl⟩
    rw [← hs] at cx z1
    clear hs
    obtain ⟨f, hm⟩ := HM.out
    obtain ⟨w', hrun, hm', hg'⟩ := hm.drew.store Tryf.underlying9 Tryf.underlying26 (by unfold maxLen; omega) s (by unfold maxLen; omega) (.bool true)
    have d0 := HR7.cell (i := 0) (by omega)
    simp only [two] at d0
    have hbz := HR7.lt
    have kn : (k : Int) < (n0 : Int) := by omega
    have cx' : w'.cell? (x.add k) = some (.string s) := by
      rw [← cx]
      exact World.cell?_of_block (hg'.block _ (by rw [add_block]; show _ < wr.heap.size; have := hbel.size; omega) (by rw [add_block]; intro e; have := Option.some.inj e; omega))
    have T7 := Lib.hid (HR7.drew.of_block (hg'.block _ hbz (by intro e; have := Option.some.inj e; omega)))
    have T6 := Lib.hid (HR6.drew.of_block (hg'.block _ HR6.lt (by intro e; have := Option.some.inj e; omega)))
    have TM := Lib.hid hm'
    have TB := Lib.hid (hbel.drew.grown hg' hbel.drew.size (fun g e => by have := Option.some.inj e; omega))
    clear hm hm' HR7 HR6 hbel HM hg'
    go_wp2
    refine wp_region_held_drew (S := fun w' => w'.cell? (x.add k) = some (.string s)) (by kernel_rfl) cx (fun hHeld => ?_)
    refine wpAnyH_take (i := 0) (oi := { dst := some 24, op := Op.fieldAddr 29 (Operand.tmp 7) 0, type := 0, pos := "laws_internal_resolver_b2.go:74", after := #[], guard := none }) (v := ?_) rfl (by kernel_rfl) (by kernel_rfl) (by kernel_rfl) (fun _ _ _ h => h) (Or.inl ⟨by rfl, ?_⟩) (by assumption) ?_
    rotate_left
    · intro wq hSw
      have q1 := hSw
      go_simp
      try (with_reducible rfl)
    try go_frame
    refine wpAnyH_take (i := 2) (oi := { dst := some 26, op := Op.move (Operand.tmp 0), type := 22, pos := "laws_internal_resolver_b2.go:74", after := #[], guard := none }) (v := ?_) rfl (by kernel_rfl) (by kernel_rfl) (by kernel_rfl) (fun _ _ _ h => h) (Or.inl ⟨by rfl, ?_⟩) (by assumption) ?_
    rotate_left
    · intro wq hSw
      have q1 := hSw
      go_simp
      try (with_reducible rfl)
    try go_frame
    refine wpAnyH_take (i := 3) (oi := { dst := some 27, op := Op.move (Operand.tmp 8), type := 3, pos := "laws_internal_resolver_b2.go:74", after := #[], guard := none }) (v := ?_) rfl (by kernel_rfl) (by kernel_rfl) (by kernel_rfl) (fun _ _ _ h => h) (Or.inl ⟨by rfl, ?_⟩) (by assumption) ?_
    rotate_left
    · intro wq hSw
      have q1 := hSw
      go_simp
      try (with_reducible rfl)
    try go_frame
    refine wpAnyH_take (i := 4) (oi := { dst := some 28, op := Op.indexAddr 22 (Operand.tmp 26) (Operand.tmp 27), type := 0, pos := "laws_internal_resolver_b2.go:74", after := #[{ on := 2, ground := Ground.data }, { on := 3, ground := Ground.data }], guard := none }) (v := ?_) rfl (by kernel_rfl) (by kernel_rfl) (by kernel_rfl) (fun _ _ _ h => h) (Or.inl ⟨by rfl, ?_⟩) (by assumption) ?_
    rotate_left
    · intro wq hSw
      have q1 := hSw
      go_simp
      try (with_reducible rfl)
    try go_frame
    refine wpAnyH_take (i := 5) (oi := { dst := some 29, op := Op.load 9 (Operand.tmp 28), type := 9, pos := "laws_internal_resolver_b2.go:74", after := #[{ on := 4, ground := Ground.data }], guard := none }) (v := ?_) rfl (by kernel_rfl) (by kernel_rfl) (by kernel_rfl) (fun _ _ _ h => h) (Or.inl ⟨by rfl, ?_⟩) (by assumption) ?_
    rotate_left
    · intro wq hSw
      have q1 := hSw
      go_simp
      try (with_reducible rfl)
    try go_frame
    refine wpAnyH_ready (rs := [1]) (by kernel_rfl) (by simp) ?_
    refine AllReadyH.cons rfl (fun K hK => ?_) AllReadyH.nil
    go_simp
    refine hK.out _ _ (by assumption) (fun hHeld => ?_)
    clear hK K
    try go_frame
    refine wpAnyH_ready (rs := [6]) (by kernel_rfl) (by simp) ?_
    refine AllReadyH.cons rfl (fun K hK => ?_) AllReadyH.nil
    go_simp
    refine hK.out _ _ cx' (fun hHeld => ?_)
    clear hK K
    try go_frame
    refine wpAnyH_done (by kernel_rfl) ?_ _
    clear hrun cx cx' d0
    go_wp2
    go_roundw
    case rel => exact ⟨k + 1, by omega, by go_num, Lib.hid ⟨_, TM.out⟩, T7.out, T6.out, TB.out⟩
    case measure => simp [intOf]; omega
  have hke : k = n0 := by omega
  rw [hke] at HM ⊢
  clear hke hlt hk
  have Q7 := Lib.hid HR7; have Q6 := Lib.hid HR6; have QB := Lib.hid hbel; have hB7 := HR7.lt
  clear HR7 HR6 hbel
  have h8 := Lib.hid (min8 n1 n2)
  go_wp2_with (first | (go_at_call 8; refine (h8.out _ g1 g2).mono ?_; rintro e w8 ⟨rfl, rfl⟩) | fail)
  obtain ⟨n, hn⟩ : ∃ n, n = min n1 n2 := ⟨_, rfl⟩
  rw [← hn]
  have hnn : n ≤ n1 ∧ n ≤ n2 := by omega
  clear hn
  obtain ⟨i0, hi, hz0, hz1, hz2⟩ := info_parts info32
  have HI := Lib.hid hi; have Z0 := Lib.hid hz0; have Z1 := Lib.hid hz1; have Z2 := Lib.hid hz2
  clear hi hz0 hz1 hz2 h8
  go_loopw [10] (fun i wr => ∃ (k : Nat) (v : Value) (l : List (ByteArray × ByteArray)), k ≤ n ∧ i = .int .i64 k ∧ Hid (l.length = k) ∧ Hid (Pw wr (w.heap.size + 3) v l) ∧ Hid (Bo l) ∧ Hid (∃ f, MapIs Tryf.prog 9 wr (w.heap.size + 1 + 1) n0 f) ∧ wr.rowIs (w.heap.size + 1) 29 2 (two (.map (some (w.heap.size + 1 + 1))) v) ∧ wr.rowIs w.heap.size 29 2 (two (.map none) (.slice none 0 0)) ∧ Below w.heap.size w wr) (fun i _ => n - (intOf i).toNat)
  case atStart => exact ⟨0, _, [], by omega, rfl, Lib.hid rfl, Lib.hid (Pw.nil _ _), Lib.hid (fun q h => by cases h), HM, Q7.out, Q6.out, QB.out⟩
  case round =>
  obtain ⟨k, v, l, hk, rfl, hlk, PW0, BO, QM', HR7, HR6, hbel⟩ := hrel
  obtain ⟨A, c, rfl, _⟩ := PW0.out.at_
  have el : l.length = k := hlk.out
  rw [el] at PW0 HR7
  have PW' : Hid (Pw wr (w.heap.size + 3) (.slice A k c) l) := PW0
  have PW : Hid (wr.ownsRow (w.heap.size + 3) 32 2 (.slice A k c) k (pv l)) := Lib.hid (by have := PW0.out; unfold Pw at this; rw [el] at this; exact this)
  clear el PW0
  have Q7' := Lib.hid HR7; have Q6' := Lib.hid HR6; have QB' := Lib.hid hbel
  have hB7 := HR7.lt
  have hws := hbel.size
  by_cases hlt : k < n
  · have k1 : k < l1.length := by rw [HL1.out]; omega
    have k2 : k < l2.length := by rw [HL2.out]; omega
    obtain ⟨x, rfl, hxb, cx⟩ := (R1.out.below hbel).at_ (sv_at l1 k k1)
    obtain ⟨y, rfl, hyb, cy⟩ := (R2.out.below hbel).at_ (sv_at l2 k k2)
    have zx := M1.out _ (List.getElem_mem k1)
    have zy := M2.out _ (List.getElem_mem k2)
    obtain ⟨s1, hs1⟩ : ∃ s, s = l1[k] := ⟨_, rfl⟩
    obtain ⟨s2, hs2⟩ : ∃ s, s = l2[k] := ⟨_, rfl⟩
    rw [← hs1] at cx zx
    rw [← hs2] at cy zy
    clear hs1 hs2
    have d1 := HR7.cell (i := 1) (by omega)
    simp only [two] at d1
    have x1 : (k : Int) < (n1 : Int) := by omega
    have x2 : (k : Int) < (n2 : Int) := by omega
    have x3 : (k : Int) < (n : Int) := by omega
    have LEN1 : k + 1 ≤ maxLen := by unfold maxLen; omega
    have LENB : (k + 1) * 32 ≤ 140737488355328 := by omega
    have hBASE : (w.heap.size + 3) ≤ wr.heap.size := by obtain ⟨f, hf⟩ := QM'.out; have := hf.lt; omega
    clear HR7 HR6 hbel
    go_wp2
    have cx1 : ∀ o, ((wr.alloc o).drew).cell? (x.add k) = some (.string s1) := fun o => by rw [← cx]; exact World.cell?_of_block (blk_alloc_lt _ _ _ (by rw [add_block]; omega))
    have cy1 : ∀ o, ((wr.alloc o).drew).cell? (y.add k) = some (.string s2) := fun o => by rw [← cy]; exact World.cell?_of_block (blk_alloc_lt _ _ _ (by rw [add_block]; omega))
    refine wp_region_held_drew (S := fun w' => w'.cell? (x.add k) = some (.string s1) ∧ w'.cell? (y.add k) = some (.string s2)) (by kernel_rfl) ⟨cx, cy⟩ (fun hHeld => ?_)
    refine wpAnyH_take (i := 0) (oi := { dst := some 40, op := Op.fieldAddr 29 (Operand.tmp 7) 1, type := 0, pos := "laws_internal_resolver_b2.go:79", after := #[], guard := none }) (v := ?_) rfl (by kernel_rfl) (by kernel_rfl) (by kernel_rfl) (fun _ _ _ h => h) (Or.inl ⟨by rfl, ?_⟩) (by assumption) ?_
    rotate_left
    · intro wq hSw
      obtain ⟨q1, q2⟩ := hSw
      go_simp
      try (with_reducible rfl)
    try go_frame
    refine wpAnyH_take (i := 2) (oi := { dst := some 42, op := Op.move (Operand.tmp 1), type := 22, pos := "laws_internal_resolver_b2.go:79", after := #[], guard := none }) (v := ?_) rfl (by kernel_rfl) (by kernel_rfl) (by kernel_rfl) (fun _ _ _ h => h) (Or.inl ⟨by rfl, ?_⟩) (by assumption) ?_
    rotate_left
    · intro wq hSw
      obtain ⟨q1, q2⟩ := hSw
      go_simp
      try (with_reducible rfl)
    try go_frame
    refine wpAnyH_take (i := 3) (oi := { dst := some 43, op := Op.move (Operand.tmp 10), type := 3, pos := "laws_internal_resolver_b2.go:79", after := #[], guard := none }) (v := ?_) rfl (by kernel_rfl) (by kernel_rfl) (by kernel_rfl) (fun _ _ _ h => h) (Or.inl ⟨by rfl, ?_⟩) (by assumption) ?_
    rotate_left
    · intro wq hSw
      obtain ⟨q1, q2⟩ := hSw
      go_simp
      try (with_reducible rfl)
    try go_frame
    refine wpAnyH_take (i := 4) (oi := { dst := some 44, op := Op.indexAddr 22 (Operand.tmp 42) (Operand.tmp 43), type := 0, pos := "laws_internal_resolver_b2.go:79", after := #[{ on := 2, ground := Ground.data }, { on := 3, ground := Ground.data }], guard := none }) (v := ?_) rfl (by kernel_rfl) (by kernel_rfl) (by kernel_rfl) (fun _ _ _ h => h) (Or.inl ⟨by rfl, ?_⟩) (by assumption) ?_
    rotate_left
    · intro wq hSw
      obtain ⟨q1, q2⟩ := hSw
      go_simp
      try (with_reducible rfl)
    try go_frame
    refine wpAnyH_take (i := 5) (oi := { dst := some 45, op := Op.load 9 (Operand.tmp 44), type := 9, pos := "laws_internal_resolver_b2.go:79", after := #[{ on := 4, ground := Ground.data }], guard := none }) (v := ?_) rfl (by kernel_rfl) (by kernel_rfl) (by kernel_rfl) (fun _ _ _ h => h) (Or.inl ⟨by rfl, ?_⟩) (by assumption) ?_
    rotate_left
    · intro wq hSw
      obtain ⟨q1, q2⟩ := hSw
      go_simp
      try (with_reducible rfl)
    try go_frame
    refine wpAnyH_take (i := 6) (oi := { dst := some 46, op := Op.move (Operand.tmp 2), type := 22, pos := "laws_internal_resolver_b2.go:79", after := #[], guard := none }) (v := ?_) rfl (by kernel_rfl) (by kernel_rfl) (by kernel_rfl) (fun _ _ _ h => h) (Or.inl ⟨by rfl, ?_⟩) (by assumption) ?_
    rotate_left
    · intro wq hSw
      obtain ⟨q1, q2⟩ := hSw
      go_simp
      try (with_reducible rfl)
    try go_frame
    refine wpAnyH_take (i := 7) (oi := { dst := some 47, op := Op.move (Operand.tmp 10), type := 3, pos := "laws_internal_resolver_b2.go:79", after := #[], guard := none }) (v := ?_) rfl (by kernel_rfl) (by kernel_rfl) (by kernel_rfl) (fun _ _ _ h => h) (Or.inl ⟨by rfl, ?_⟩) (by assumption) ?_
    rotate_left
    · intro wq hSw
      obtain ⟨q1, q2⟩ := hSw
      go_simp
      try (with_reducible rfl)
    try go_frame
    refine wpAnyH_take (i := 8) (oi := { dst := some 48, op := Op.indexAddr 22 (Operand.tmp 46) (Operand.tmp 47), type := 0, pos := "laws_internal_resolver_b2.go:79", after := #[{ on := 6, ground := Ground.data }, { on := 7, ground := Ground.data }], guard := none }) (v := ?_) rfl (by kernel_rfl) (by kernel_rfl) (by kernel_rfl) (fun _ _ _ h => h) (Or.inl ⟨by rfl, ?_⟩) (by assumption) ?_
    rotate_left
    · intro wq hSw
      obtain ⟨q1, q2⟩ := hSw
      go_simp
      try (with_reducible rfl)
    try go_frame
    refine wpAnyH_take (i := 9) (oi := { dst := some 49, op := Op.load 9 (Operand.tmp 48), type := 9, pos := "laws_internal_resolver_b2.go:79", after := #[{ on := 8, ground := Ground.data }], guard := none }) (v := ?_) rfl (by kernel_rfl) (by kernel_rfl) (by kernel_rfl) (fun _ _ _ h => h) (Or.inl ⟨by rfl, ?_⟩) (by assumption) ?_
    rotate_left
    · intro wq hSw
      obtain ⟨q1, q2⟩ := hSw
      go_simp
      try (with_reducible rfl)
    try go_frame
    refine wpAnyH_take (i := 10) (oi := { dst := some 50, op := Op.build 32 #[(0, Operand.tmp 45), (1, Operand.tmp 49)], type := 32, pos := "laws_internal_resolver_b2.go:79", after := #[{ on := 5, ground := Ground.data }, { on := 9, ground := Ground.data }], guard := none }) (v := ?_) rfl (by kernel_rfl) (by kernel_rfl) (by kernel_rfl) (fun _ _ _ h => h) (Or.inl ⟨by rfl, ?_⟩) (by assumption) ?_
    rotate_left
    · intro wq hSw
      obtain ⟨q1, q2⟩ := hSw
      go_simp
      try (with_reducible rfl)
    try go_frame
    refine wpAnyH_ready (rs := [1, 11]) (by kernel_rfl) (by simp) ?_
    refine AllReadyH.cons rfl (fun K hK => ?_) (AllReadyH.cons rfl (fun K hK => ?_) AllReadyH.nil)
    · go_simp
      refine hK.out _ _ ⟨cx, cy⟩ (fun hHeld => ?_)
      clear hK K
      try go_frame
      refine wpAnyH_ready (rs := [11]) (by kernel_rfl) (by simp) ?_
      refine AllReadyH.cons rfl (fun K hK => ?_) AllReadyH.nil
      go_simp
      refine hK.out _ _ ⟨cx1 _, cy1 _⟩ (fun hHeld => ?_)
      clear hK K
      try go_frame
      refine wpAnyH_ready (rs := [12]) (by kernel_rfl) (by simp) ?_
      refine AllReadyH.cons rfl (fun K hK => ?_) AllReadyH.nil
      refine step_append_lies _ (by rfl) _ _ _ (by rfl) (w.heap.size + 3) 32 i0 (.agg #[.string { data := #[] }, .string { data := #[] }]) 2 32 Tryf.underlying27 HI.out Z0.out Z1.out Z2.out rfl (by omega) (.slice A k c) k (pv l) (by rfl) (World.ownsRow.drew (World.ownsRow.alloc PW.out _)) ⟨wr.heap.size, 0, none⟩ 1 1 [.string s1, .string s2] (by rfl) (by rfl) (World.news_of_block (cs := #[.string s1, .string s2]) (t := 32) (fr := (0, 0)) (heap_alloc_new wr _)) (by intro u hu; simp only [List.mem_cons, List.not_mem_nil, or_false] at hu; rcases hu with rfl | rfl <;> rfl) (by omega) LEN1 LENB (by simp; omega) (wr.heap.size + 1) (by simp) ?_
      intro g cap w9 o9 g9 at9 lt9
      have hGB : (w.heap.size + 3) ≤ g := by
        rcases at9 with e | e
        · exact (Pw.lt PW'.out e).1
        · omega
      have hXn : ∀ q : Nat, q < (w.heap.size + 3) → some q ≠ (Value.slice A k c).ownBlock := fun q hq e => by
        have := (Pw.lt PW'.out e.symm).1; omega
      have e9 : ∀ q : Nat, q < (w.heap.size + 3) → q < wr.heap.size → w9.heap[q]? = wr.heap[q]? := fun q hq hw => (g9.block q (by simp; omega) (hXn q hq)).trans (blk_alloc_lt _ _ _ hw)
      have cx9 : w9.cell? (x.add k) = some (.string s1) := by rw [← cx]; exact World.cell?_of_block (e9 _ (by rw [add_block]; omega) (by rw [add_block]; omega))
      have cy9 : w9.cell? (y.add k) = some (.string s2) := by rw [← cy]; exact World.cell?_of_block (e9 _ (by rw [add_block]; omega) (by rw [add_block]; omega))
      refine hK.out _ _ ⟨cx9, cy9⟩ (fun hHeld => ?_)
      clear hK K
      try go_frame
      refine wpAnyH_take (i := 13) (oi := { dst := some 53, op := Op.fieldAddr 29 (Operand.tmp 7) 1, type := 0, pos := "laws_internal_resolver_b2.go:79", after := #[{ on := 0, ground := Ground.phase }, { on := 1, ground := Ground.phase }, { on := 2, ground := Ground.phase }, { on := 3, ground := Ground.phase }, { on := 4, ground := Ground.phase }, { on := 5, ground := Ground.phase }, { on := 6, ground := Ground.phase }, { on := 7, ground := Ground.phase }, { on := 8, ground := Ground.phase }, { on := 9, ground := Ground.phase }, { on := 10, ground := Ground.phase }, { on := 11, ground := Ground.phase }, { on := 12, ground := Ground.phase }], guard := none }) (v := ?_) rfl (by kernel_rfl) (by kernel_rfl) (by kernel_rfl) (fun _ _ _ h => h) (Or.inl ⟨by rfl, ?_⟩) (by assumption) ?_
      rotate_left
      · intro wq hSw
        obtain ⟨q1, q2⟩ := hSw
        go_simp
        try (with_reducible rfl)
      try go_frame
      have T7' := Q7'.out.of_block (e9 _ (by omega) (by omega))
      have T6' := Q6'.out.of_block (e9 _ (by omega) (by omega))
      have d9 := T7'.cell (i := 1) (by omega)
      have f9 := T7'.frozen 1
      simp only [two] at d9
      have cx10 : (w9.setCell ⟨w.heap.size + 1, 1, none⟩ (.slice (some ⟨g, 0, none⟩) (k + 1) cap)).cell? (x.add k) = some (.string s1) := by rw [← cx9]; exact World.cell?_of_block (blk_setCell_other _ _ _ _ (by rw [add_block]; show _ ≠ w.heap.size + 1; omega))
      have cy10 : (w9.setCell ⟨w.heap.size + 1, 1, none⟩ (.slice (some ⟨g, 0, none⟩) (k + 1) cap)).cell? (y.add k) = some (.string s2) := by rw [← cy9]; exact World.cell?_of_block (blk_setCell_other _ _ _ _ (by rw [add_block]; show _ ≠ w.heap.size + 1; omega))
      refine wpAnyH_ready (rs := [14]) (by kernel_rfl) (by simp) ?_
      refine AllReadyH.cons rfl (fun K hK => ?_) AllReadyH.nil
      go_simp
      refine hK.out _ _ ⟨cx10, cy10⟩ (fun hHeld => ?_)
      clear hK K cx10 cy10
      try go_frame
      refine wpAnyH_done (by kernel_rfl) ?_ _
      have N9 : Pw w9 (w.heap.size + 3) (.slice (some ⟨g, 0, none⟩) (k + 1) cap) (l ++ [(s1, s2)]) := by
        unfold Pw
        rw [List.length_append, hlk.out, pv_append]
        exact o9
      have NP := Lib.hid (N9.to (w' := w9.setCell ⟨w.heap.size + 1, 1, none⟩ (.slice (some ⟨g, 0, none⟩) (k + 1) cap)) (fun q hq => blk_setCell_other _ _ _ _ (by have := (N9.lt hq).1; show q ≠ w.heap.size + 1; omega)))
      have N7 := Lib.hid ((T7'.set 1 (.slice (some ⟨g, 0, none⟩) (k + 1) cap)).congr (g := two (.map (some (w.heap.size + 1 + 1))) (.slice (some ⟨g, 0, none⟩) (k + 1) cap)) (fun i hi => by
        match i, hi with
        | 0, _ => rfl
        | 1, _ => rfl))
      have N6 := Lib.hid (T6'.setOther (a := ⟨w.heap.size + 1, 1, none⟩) (by show w.heap.size ≠ w.heap.size + 1; omega) (.slice (some ⟨g, 0, none⟩) (k + 1) cap))
      have NB := Lib.hid (((((QB'.out.alloc QB'.out.size (.cells #[.string s1, .string s2] 32)).drew).grown g9 (by simp; have := QB'.out.size; omega) (fun q e => by have := (Pw.lt PW'.out e).1; omega))).setCell (show w.heap.size ≤ (⟨w.heap.size + 1, 1, none⟩ : Addr).block from Nat.le_succ _) (.slice (some ⟨g, 0, none⟩) (k + 1) cap))
      have NM : Hid (∃ f, MapIs Tryf.prog 9 (w9.setCell ⟨w.heap.size + 1, 1, none⟩ (.slice (some ⟨g, 0, none⟩) (k + 1) cap)) (w.heap.size + 1 + 1) n0 f) := Lib.hid (by obtain ⟨f, hf⟩ := QM'.out; exact ⟨f, hf.of_block (o := none) ((blk_setCell_other _ _ _ _ (by show w.heap.size + 1 + 1 ≠ w.heap.size + 1; omega)).trans (e9 _ (by omega) hf.lt))⟩)
      have NL : Hid ((l ++ [(s1, s2)]).length = k + 1) := Lib.hid (by rw [List.length_append, hlk.out]; rfl)
      have NO : Hid (Bo (l ++ [(s1, s2)])) := Lib.hid (by
        intro q hq
        rcases List.mem_append.1 hq with hq | hq
        · exact BO.out q hq
        · obtain rfl : q = (s1, s2) := by simpa using hq
          exact ⟨zx, zy⟩)
      clear o9 g9 at9 lt9 e9 hXn hGB cx9 cy9 T7' T6' d9 f9 N9 cx cy d1
      go_wp2
      go_roundw
      case rel => exact ⟨k + 1, _, _, by omega, by go_num, NL, NP, NO, NM, N7.out, N6.out, NB.out⟩
      case measure => simp [intOf]; omega
    · go_simp
      refine hK.out _ _ ⟨cx1 _, cy1 _⟩ (fun hHeld => ?_)
      clear hK K
      try go_frame
      refine wpAnyH_ready (rs := [1]) (by kernel_rfl) (by simp) ?_
      refine AllReadyH.cons rfl (fun K hK => ?_) AllReadyH.nil
      go_simp
      refine hK.out _ _ ⟨cx1 _, cy1 _⟩ (fun hHeld => ?_)
      clear hK K
      try go_frame
      refine wpAnyH_ready (rs := [12]) (by kernel_rfl) (by simp) ?_
      refine AllReadyH.cons rfl (fun K hK => ?_) AllReadyH.nil
      refine step_append_lies _ (by rfl) _ _ _ (by rfl) (w.heap.size + 3) 32 i0 (.agg #[.string { data := #[] }, .string { data := #[] }]) 2 32 Tryf.underlying27 HI.out Z0.out Z1.out Z2.out rfl (by omega) (.slice A k c) k (pv l) (by rfl) (World.ownsRow.drew (World.ownsRow.alloc PW.out _)) ⟨wr.heap.size, 0, none⟩ 1 1 [.string s1, .string s2] (by rfl) (by rfl) (World.news_of_block (cs := #[.string s1, .string s2]) (t := 32) (fr := (0, 0)) (heap_alloc_new wr _)) (by intro u hu; simp only [List.mem_cons, List.not_mem_nil, or_false] at hu; rcases hu with rfl | rfl <;> rfl) (by omega) LEN1 LENB (by simp; omega) (wr.heap.size + 1) (by simp) ?_
      intro g cap w9 o9 g9 at9 lt9
      have hGB : (w.heap.size + 3) ≤ g := by
        rcases at9 with e | e
        · exact (Pw.lt PW'.out e).1
        · omega
      have hXn : ∀ q : Nat, q < (w.heap.size + 3) → some q ≠ (Value.slice A k c).ownBlock := fun q hq e => by
        have := (Pw.lt PW'.out e.symm).1; omega
      have e9 : ∀ q : Nat, q < (w.heap.size + 3) → q < wr.heap.size → w9.heap[q]? = wr.heap[q]? := fun q hq hw => (g9.block q (by simp; omega) (hXn q hq)).trans (blk_alloc_lt _ _ _ hw)
      have cx9 : w9.cell? (x.add k) = some (.string s1) := by rw [← cx]; exact World.cell?_of_block (e9 _ (by rw [add_block]; omega) (by rw [add_block]; omega))
      have cy9 : w9.cell? (y.add k) = some (.string s2) := by rw [← cy]; exact World.cell?_of_block (e9 _ (by rw [add_block]; omega) (by rw [add_block]; omega))
      refine hK.out _ _ ⟨cx9, cy9⟩ (fun hHeld => ?_)
      clear hK K
      try go_frame
      refine wpAnyH_take (i := 13) (oi := { dst := some 53, op := Op.fieldAddr 29 (Operand.tmp 7) 1, type := 0, pos := "laws_internal_resolver_b2.go:79", after := #[{ on := 0, ground := Ground.phase }, { on := 1, ground := Ground.phase }, { on := 2, ground := Ground.phase }, { on := 3, ground := Ground.phase }, { on := 4, ground := Ground.phase }, { on := 5, ground := Ground.phase }, { on := 6, ground := Ground.phase }, { on := 7, ground := Ground.phase }, { on := 8, ground := Ground.phase }, { on := 9, ground := Ground.phase }, { on := 10, ground := Ground.phase }, { on := 11, ground := Ground.phase }, { on := 12, ground := Ground.phase }], guard := none }) (v := ?_) rfl (by kernel_rfl) (by kernel_rfl) (by kernel_rfl) (fun _ _ _ h => h) (Or.inl ⟨by rfl, ?_⟩) (by assumption) ?_
      rotate_left
      · intro wq hSw
        obtain ⟨q1, q2⟩ := hSw
        go_simp
        try (with_reducible rfl)
      try go_frame
      have T7' := Q7'.out.of_block (e9 _ (by omega) (by omega))
      have T6' := Q6'.out.of_block (e9 _ (by omega) (by omega))
      have d9 := T7'.cell (i := 1) (by omega)
      have f9 := T7'.frozen 1
      simp only [two] at d9
      have cx10 : (w9.setCell ⟨w.heap.size + 1, 1, none⟩ (.slice (some ⟨g, 0, none⟩) (k + 1) cap)).cell? (x.add k) = some (.string s1) := by rw [← cx9]; exact World.cell?_of_block (blk_setCell_other _ _ _ _ (by rw [add_block]; show _ ≠ w.heap.size + 1; omega))
      have cy10 : (w9.setCell ⟨w.heap.size + 1, 1, none⟩ (.slice (some ⟨g, 0, none⟩) (k + 1) cap)).cell? (y.add k) = some (.string s2) := by rw [← cy9]; exact World.cell?_of_block (blk_setCell_other _ _ _ _ (by rw [add_block]; show _ ≠ w.heap.size + 1; omega))
      refine wpAnyH_ready (rs := [14]) (by kernel_rfl) (by simp) ?_
      refine AllReadyH.cons rfl (fun K hK => ?_) AllReadyH.nil
      go_simp
      refine hK.out _ _ ⟨cx10, cy10⟩ (fun hHeld => ?_)
      clear hK K cx10 cy10
      try go_frame
      refine wpAnyH_done (by kernel_rfl) ?_ _
      have N9 : Pw w9 (w.heap.size + 3) (.slice (some ⟨g, 0, none⟩) (k + 1) cap) (l ++ [(s1, s2)]) := by
        unfold Pw
        rw [List.length_append, hlk.out, pv_append]
        exact o9
      have NP := Lib.hid (N9.to (w' := w9.setCell ⟨w.heap.size + 1, 1, none⟩ (.slice (some ⟨g, 0, none⟩) (k + 1) cap)) (fun q hq => blk_setCell_other _ _ _ _ (by have := (N9.lt hq).1; show q ≠ w.heap.size + 1; omega)))
      have N7 := Lib.hid ((T7'.set 1 (.slice (some ⟨g, 0, none⟩) (k + 1) cap)).congr (g := two (.map (some (w.heap.size + 1 + 1))) (.slice (some ⟨g, 0, none⟩) (k + 1) cap)) (fun i hi => by
        match i, hi with
        | 0, _ => rfl
        | 1, _ => rfl))
      have N6 := Lib.hid (T6'.setOther (a := ⟨w.heap.size + 1, 1, none⟩) (by show w.heap.size ≠ w.heap.size + 1; omega) (.slice (some ⟨g, 0, none⟩) (k + 1) cap))
      have NB := Lib.hid (((((QB'.out.alloc QB'.out.size (.cells #[.string s1, .string s2] 32)).drew).grown g9 (by simp; have := QB'.out.size; omega) (fun q e => by have := (Pw.lt PW'.out e).1; omega))).setCell (show w.heap.size ≤ (⟨w.heap.size + 1, 1, none⟩ : Addr).block from Nat.le_succ _) (.slice (some ⟨g, 0, none⟩) (k + 1) cap))
      have NM : Hid (∃ f, MapIs Tryf.prog 9 (w9.setCell ⟨w.heap.size + 1, 1, none⟩ (.slice (some ⟨g, 0, none⟩) (k + 1) cap)) (w.heap.size + 1 + 1) n0 f) := Lib.hid (by obtain ⟨f, hf⟩ := QM'.out; exact ⟨f, hf.of_block (o := none) ((blk_setCell_other _ _ _ _ (by show w.heap.size + 1 + 1 ≠ w.heap.size + 1; omega)).trans (e9 _ (by omega) hf.lt))⟩)
      have NL : Hid ((l ++ [(s1, s2)]).length = k + 1) := Lib.hid (by rw [List.length_append, hlk.out]; rfl)
      have NO : Hid (Bo (l ++ [(s1, s2)])) := Lib.hid (by
        intro q hq
        rcases List.mem_append.1 hq with hq | hq
        · exact BO.out q hq
        · obtain rfl : q = (s1, s2) := by simpa using hq
          exact ⟨zx, zy⟩)
      clear o9 g9 at9 lt9 e9 hXn hGB cx9 cy9 T7' T6' d9 f9 N9 cx cy d1
      go_wp2
      go_roundw
      case rel => exact ⟨k + 1, _, _, by omega, by go_num, NL, NP, NO, NM, N7.out, N6.out, NB.out⟩
      case measure => simp [intOf]; omega
  obtain rfl : k = n := by omega
  have d0 := HR7.cell (i := 0) (by omega)
  have d1 := HR7.cell (i := 1) (by omega)
  have e0 := HR6.cell (i := 0) (by omega)
  have e1 := HR6.cell (i := 1) (by omega)
  have g0 := HR6.frozen 0
  have g1' := HR6.frozen 1
  simp only [two] at d0 d1 e0 e1
  clear HR7 HR6 hbel
  go_wp2
  have S2 := (Q6'.out.set 0 (.map (some (w.heap.size + 1 + 1)))).set 1 (.slice A k c)
  have s0 := S2.cell (i := 0) (by omega)
  have s1 := S2.cell (i := 1) (by omega)
  simp at s0 s1
  have NB := (QB'.out.setCell (show w.heap.size ≤ (⟨w.heap.size, 0, none⟩ : Addr).block from Nat.le_refl _) (.map (some (w.heap.size + 1 + 1)))).setCell (show w.heap.size ≤ (⟨w.heap.size, 1, none⟩ : Addr).block from Nat.le_refl _) (.slice A k c)
  have NP := Pw.to PW'.out (w' := (wr.setCell ⟨w.heap.size, 0, none⟩ (.map (some (w.heap.size + 1 + 1)))).setCell ⟨w.heap.size, 1, none⟩ (.slice A k c)) (fun q hq => (blk_setCell_other _ _ _ _ (by have := (Pw.lt PW'.out hq).1; show q ≠ w.heap.size; omega)).trans (blk_setCell_other _ _ _ _ (by have := (Pw.lt PW'.out hq).1; show q ≠ w.heap.size; omega)))
  have NM : Mp ((wr.setCell ⟨w.heap.size, 0, none⟩ (.map (some (w.heap.size + 1 + 1)))).setCell ⟨w.heap.size, 1, none⟩ (.slice A k c)) w.heap.size (.map (some (w.heap.size + 1 + 1))) := by obtain ⟨f, hf⟩ := QM'.out; exact .inr ⟨_, n0, f, rfl, by omega, g0'.out, hf.of_block (o := none) ((blk_setCell_other _ _ _ _ (by show w.heap.size + 1 + 1 ≠ w.heap.size; omega)).trans (blk_setCell_other _ _ _ _ (by show w.heap.size + 1 + 1 ≠ w.heap.size; omega)))⟩
  exact bodyPost_ret (v := .agg #[(.map (some (w.heap.size + 1 + 1))), .slice A k c]) (by simp [results, Tryf.results6, go_sem, s0, s1]) rfl ⟨_, _, l, rfl, NM, Pw.less NP (by omega), by have := hlk.out; omega, BO.out, fun q hq hv => (by injection hq with hq; have h1 := Option.some.inj hq; have h2 := (Pw.lt NP hv).1; omega), NB⟩
set_option maxRecDepth 20000 in
set_option maxHeartbeats 4000000 in
theorem build_none (A0 : Option Addr) (c0 : Nat) (l0 : List ByteArray) (A1 : Option Addr) (n1 c1 : Nat) (l1 : List ByteArray) (A2 : Option Addr) (n2 c2 : Nat) (l2 : List ByteArray) (w : World) (r0 : Rd w w.heap.size A0 (sv l0)) (m0 : ∀ s ∈ l0, s.size ≤ 1048576) (L1 : l1.length = n1) (g1 : n1 ≤ 1048576) (r1 : Rd w w.heap.size A1 (sv l1)) (m1 : ∀ s ∈ l1, s.size ≤ 1048576) (L2 : l2.length = n2) (g2 : n2 ≤ 1048576) (r2 : Rd w w.heap.size A2 (sv l2)) (m2 : ∀ s ∈ l2, s.size ≤ 1048576) :
    Calls Tryf.prog 6 #[.slice A0 0 c0, .slice A1 n1 c1, .slice A2 n2 c2] w (Bld w) := by
  have HL1 := Lib.hid L1; have R1 := Lib.hid r1; have M1 := Lib.hid m1
  have HL2 := Lib.hid L2; have R2 := Lib.hid r2; have M2 := Lib.hid m2
  clear r0 m0 L1 r1 m1 L2 r2 m2
  have RA := Lib.hid (fun (o1 : Obj) => (row2 (.map none) (.slice none 0 0) 29 w).alloc o1)
  have RB : Hid (∀ o0 : Obj, ((w.alloc o0).alloc (.cells #[.map none, .slice none 0 0] 29)).rowIs (w.heap.size + 1) 29 2 (two (.map none) (.slice none 0 0))) := Lib.hid fun o0 => by
    have := row2 (.map none) (.slice none 0 0) 29 (w.alloc o0)
    rw [World.size_alloc] at this
    exact this
  have Q7 := Lib.hid (RB.out (.cells #[.map none, .slice none 0 0] 29))
  have Q6 := Lib.hid (RA.out (.cells #[.map none, .slice none 0 0] 29))
  have QB := Lib.hid (((Below.refl w.heap.size w).alloc (Nat.le_refl _) (.cells #[.map none, .slice none 0 0] 29)).alloc (by simp only [World.size_alloc]; omega) (.cells #[.map none, .slice none 0 0] 29))
  clear RA RB
  go_enter Tryf.func6, Tryf.ntmps6
  have h8 := Lib.hid (min8 n1 n2)
  go_wp2_with (first | (go_at_call 8; refine (h8.out _ g1 g2).mono ?_; rintro e w8 ⟨rfl, rfl⟩) | fail)
  obtain ⟨n, hn⟩ : ∃ n, n = min n1 n2 := ⟨_, rfl⟩
  rw [← hn]
  have hnn : n ≤ n1 ∧ n ≤ n2 := by omega
  clear hn
  obtain ⟨i0, hi, hz0, hz1, hz2⟩ := info_parts info32
  have HI := Lib.hid hi; have Z0 := Lib.hid hz0; have Z1 := Lib.hid hz1; have Z2 := Lib.hid hz2
  clear hi hz0 hz1 hz2 h8
  go_loopw [10] (fun i wr => ∃ (k : Nat) (v : Value) (l : List (ByteArray × ByteArray)), k ≤ n ∧ i = .int .i64 k ∧ Hid (l.length = k) ∧ Hid (Pw wr (w.heap.size + 2) v l) ∧ Hid (Bo l) ∧ Hid (True) ∧ wr.rowIs (w.heap.size + 1) 29 2 (two (.map none) v) ∧ wr.rowIs w.heap.size 29 2 (two (.map none) (.slice none 0 0)) ∧ Below w.heap.size w wr) (fun i _ => n - (intOf i).toNat)
  case atStart => exact ⟨0, _, [], by omega, rfl, Lib.hid rfl, Lib.hid (Pw.nil _ _), Lib.hid (fun q h => by cases h), Lib.hid trivial, Q7.out, Q6.out, QB.out⟩
  case round =>
  obtain ⟨k, v, l, hk, rfl, hlk, PW0, BO, QM', HR7, HR6, hbel⟩ := hrel
  obtain ⟨A, c, rfl, _⟩ := PW0.out.at_
  have el : l.length = k := hlk.out
  rw [el] at PW0 HR7
  have PW' : Hid (Pw wr (w.heap.size + 2) (.slice A k c) l) := PW0
  have PW : Hid (wr.ownsRow (w.heap.size + 2) 32 2 (.slice A k c) k (pv l)) := Lib.hid (by have := PW0.out; unfold Pw at this; rw [el] at this; exact this)
  clear el PW0
  have Q7' := Lib.hid HR7; have Q6' := Lib.hid HR6; have QB' := Lib.hid hbel
  have hB7 := HR7.lt
  have hws := hbel.size
  by_cases hlt : k < n
  · have k1 : k < l1.length := by rw [HL1.out]; omega
    have k2 : k < l2.length := by rw [HL2.out]; omega
    obtain ⟨x, rfl, hxb, cx⟩ := (R1.out.below hbel).at_ (sv_at l1 k k1)
    obtain ⟨y, rfl, hyb, cy⟩ := (R2.out.below hbel).at_ (sv_at l2 k k2)
    have zx := M1.out _ (List.getElem_mem k1)
    have zy := M2.out _ (List.getElem_mem k2)
    obtain ⟨s1, hs1⟩ : ∃ s, s = l1[k] := ⟨_, rfl⟩
    obtain ⟨s2, hs2⟩ : ∃ s, s = l2[k] := ⟨_, rfl⟩
    rw [← hs1] at cx zx
    rw [← hs2] at cy zy
    clear hs1 hs2
    have d1 := HR7.cell (i := 1) (by omega)
    simp only [two] at d1
    have x1 : (k : Int) < (n1 : Int) := by omega
    have x2 : (k : Int) < (n2 : Int) := by omega
    have x3 : (k : Int) < (n : Int) := by omega
    have LEN1 : k + 1 ≤ maxLen := by unfold maxLen; omega
    have LENB : (k + 1) * 32 ≤ 140737488355328 := by omega
    have hBASE : (w.heap.size + 2) ≤ wr.heap.size := by omega
    clear HR7 HR6 hbel
    go_wp2
    have cx1 : ∀ o, ((wr.alloc o).drew).cell? (x.add k) = some (.string s1) := fun o => by rw [← cx]; exact World.cell?_of_block (blk_alloc_lt _ _ _ (by rw [add_block]; omega))
    have cy1 : ∀ o, ((wr.alloc o).drew).cell? (y.add k) = some (.string s2) := fun o => by rw [← cy]; exact World.cell?_of_block (blk_alloc_lt _ _ _ (by rw [add_block]; omega))
    refine wp_region_held_drew (S := fun w' => w'.cell? (x.add k) = some (.string s1) ∧ w'.cell? (y.add k) = some (.string s2)) (by kernel_rfl) ⟨cx, cy⟩ (fun hHeld => ?_)
    refine wpAnyH_take (i := 0) (oi := { dst := some 40, op := Op.fieldAddr 29 (Operand.tmp 7) 1, type := 0, pos := "laws_internal_resolver_b2.go:79", after := #[], guard := none }) (v := ?_) rfl (by kernel_rfl) (by kernel_rfl) (by kernel_rfl) (fun _ _ _ h => h) (Or.inl ⟨by rfl, ?_⟩) (by assumption) ?_
    rotate_left
    · intro wq hSw
      obtain ⟨q1, q2⟩ := hSw
      go_simp
      try (with_reducible rfl)
    try go_frame
    refine wpAnyH_take (i := 2) (oi := { dst := some 42, op := Op.move (Operand.tmp 1), type := 22, pos := "laws_internal_resolver_b2.go:79", after := #[], guard := none }) (v := ?_) rfl (by kernel_rfl) (by kernel_rfl) (by kernel_rfl) (fun _ _ _ h => h) (Or.inl ⟨by rfl, ?_⟩) (by assumption) ?_
    rotate_left
    · intro wq hSw
      obtain ⟨q1, q2⟩ := hSw
      go_simp
      try (with_reducible rfl)
    try go_frame
    refine wpAnyH_take (i := 3) (oi := { dst := some 43, op := Op.move (Operand.tmp 10), type := 3, pos := "laws_internal_resolver_b2.go:79", after := #[], guard := none }) (v := ?_) rfl (by kernel_rfl) (by kernel_rfl) (by kernel_rfl) (fun _ _ _ h => h) (Or.inl ⟨by rfl, ?_⟩) (by assumption) ?_
    rotate_left
    · intro wq hSw
      obtain ⟨q1, q2⟩ := hSw
      go_simp
      try (with_reducible rfl)
    try go_frame
    refine wpAnyH_take (i := 4) (oi := { dst := some 44, op := Op.indexAddr 22 (Operand.tmp 42) (Operand.tmp 43), type := 0, pos := "laws_internal_resolver_b2.go:79", after := #[{ on := 2, ground := Ground.data }, { on := 3, ground := Ground.data }], guard := none }) (v := ?_) rfl (by kernel_rfl) (by kernel_rfl) (by kernel_rfl) (fun _ _ _ h => h) (Or.inl ⟨by rfl, ?_⟩) (by assumption) ?_
    rotate_left
    · intro wq hSw
      obtain ⟨q1, q2⟩ := hSw
      go_simp
      try (with_reducible rfl)
    try go_frame
    refine wpAnyH_take (i := 5) (oi := { dst := some 45, op := Op.load 9 (Operand.tmp 44), type := 9, pos := "laws_internal_resolver_b2.go:79", after := #[{ on := 4, ground := Ground.data }], guard := none }) (v := ?_) rfl (by kernel_rfl) (by kernel_rfl) (by kernel_rfl) (fun _ _ _ h => h) (Or.inl ⟨by rfl, ?_⟩) (by assumption) ?_
    rotate_left
    · intro wq hSw
      obtain ⟨q1, q2⟩ := hSw
      go_simp
      try (with_reducible rfl)
    try go_frame
    refine wpAnyH_take (i := 6) (oi := { dst := some 46, op := Op.move (Operand.tmp 2), type := 22, pos := "laws_internal_resolver_b2.go:79", after := #[], guard := none }) (v := ?_) rfl (by kernel_rfl) (by kernel_rfl) (by kernel_rfl) (fun _ _ _ h => h) (Or.inl ⟨by rfl, ?_⟩) (by assumption) ?_
    rotate_left
    · intro wq hSw
      obtain ⟨q1, q2⟩ := hSw
      go_simp
      try (with_reducible rfl)
    try go_frame
    refine wpAnyH_take (i := 7) (oi := { dst := some 47, op := Op.move (Operand.tmp 10), type := 3, pos := "laws_internal_resolver_b2.go:79", after := #[], guard := none }) (v := ?_) rfl (by kernel_rfl) (by kernel_rfl) (by kernel_rfl) (fun _ _ _ h => h) (Or.inl ⟨by rfl, ?_⟩) (by assumption) ?_
    rotate_left
    · intro wq hSw
      obtain ⟨q1, q2⟩ := hSw
      go_simp
      try (with_reducible rfl)
    try go_frame
    refine wpAnyH_take (i := 8) (oi := { dst := some 48, op := Op.indexAddr 22 (Operand.tmp 46) (Operand.tmp 47), type := 0, pos := "laws_internal_resolver_b2.go:79", after := #[{ on := 6, ground := Ground.data }, { on := 7, ground := Ground.data }], guard := none }) (v := ?_) rfl (by kernel_rfl) (by kernel_rfl) (by kernel_rfl) (fun _ _ _ h => h) (Or.inl ⟨by rfl, ?_⟩) (by assumption) ?_
    rotate_left
    · intro wq hSw
      obtain ⟨q1, q2⟩ := hSw
      go_simp
      try (with_reducible rfl)
    try go_frame
    refine wpAnyH_take (i := 9) (oi := { dst := some 49, op := Op.load 9 (Operand.tmp 48), type := 9, pos := "laws_internal_resolver_b2.go:79", after := #[{ on := 8, ground := Ground.data }], guard := none }) (v := ?_) rfl (by kernel_rfl) (by kernel_rfl) (by kernel_rfl) (fun _ _ _ h => h) (Or.inl ⟨by rfl, ?_⟩) (by assumption) ?_
    rotate_left
    · intro wq hSw
      obtain ⟨q1, q2⟩ := hSw
      go_simp
      try (with_reducible rfl)
    try go_frame
    refine wpAnyH_take (i := 10) (oi := { dst := some 50, op := Op.build 32 #[(0, Operand.tmp 45), (1, Operand.tmp 49)], type := 32, pos := "laws_internal_resolver_b2.go:79", after := #[{ on := 5, ground := Ground.data }, { on := 9, ground := Ground.data }], guard := none }) (v := ?_) rfl (by kernel_rfl) (by kernel_rfl) (by kernel_rfl) (fun _ _ _ h => h) (Or.inl ⟨by rfl, ?_⟩) (by assumption) ?_
    rotate_left
    · intro wq hSw
      obtain ⟨q1, q2⟩ := hSw
      go_simp
      try (with_reducible rfl)
    try go_frame
    refine wpAnyH_ready (rs := [1, 11]) (by kernel_rfl) (by simp) ?_
    refine AllReadyH.cons rfl (fun K hK => ?_) (AllReadyH.cons rfl (fun K hK => ?_) AllReadyH.nil)
    · go_simp
      refine hK.out _ _ ⟨cx, cy⟩ (fun hHeld => ?_)
      clear hK K
      try go_frame
      refine wpAnyH_ready (rs := [11]) (by kernel_rfl) (by simp) ?_
      refine AllReadyH.cons rfl (fun K hK => ?_) AllReadyH.nil
      go_simp
      refine hK.out _ _ ⟨cx1 _, cy1 _⟩ (fun hHeld => ?_)
      clear hK K
      try go_frame
      refine wpAnyH_ready (rs := [12]) (by kernel_rfl) (by simp) ?_
      refine AllReadyH.cons rfl (fun K hK => ?_) AllReadyH.nil
      refine step_append_lies _ (by rfl) _ _ _ (by rfl) (w.heap.size + 2) 32 i0 (.agg #[.string { data := #[] }, .string { data := #[] }]) 2 32 Tryf.underlying27 HI.out Z0.out Z1.out Z2.out rfl (by omega) (.slice A k c) k (pv l) (by rfl) (World.ownsRow.drew (World.ownsRow.alloc PW.out _)) ⟨wr.heap.size, 0, none⟩ 1 1 [.string s1, .string s2] (by rfl) (by rfl) (World.news_of_block (cs := #[.string s1, .string s2]) (t := 32) (fr := (0, 0)) (heap_alloc_new wr _)) (by intro u hu; simp only [List.mem_cons, List.not_mem_nil, or_false] at hu; rcases hu with rfl | rfl <;> rfl) (by omega) LEN1 LENB (by simp; omega) (wr.heap.size + 1) (by simp) ?_
      intro g cap w9 o9 g9 at9 lt9
      have hGB : (w.heap.size + 2) ≤ g := by
        rcases at9 with e | e
        · exact (Pw.lt PW'.out e).1
        · omega
      have hXn : ∀ q : Nat, q < (w.heap.size + 2) → some q ≠ (Value.slice A k c).ownBlock := fun q hq e => by
        have := (Pw.lt PW'.out e.symm).1; omega
      have e9 : ∀ q : Nat, q < (w.heap.size + 2) → q < wr.heap.size → w9.heap[q]? = wr.heap[q]? := fun q hq hw => (g9.block q (by simp; omega) (hXn q hq)).trans (blk_alloc_lt _ _ _ hw)
      have cx9 : w9.cell? (x.add k) = some (.string s1) := by rw [← cx]; exact World.cell?_of_block (e9 _ (by rw [add_block]; omega) (by rw [add_block]; omega))
      have cy9 : w9.cell? (y.add k) = some (.string s2) := by rw [← cy]; exact World.cell?_of_block (e9 _ (by rw [add_block]; omega) (by rw [add_block]; omega))
      refine hK.out _ _ ⟨cx9, cy9⟩ (fun hHeld => ?_)
      clear hK K
      try go_frame
      refine wpAnyH_take (i := 13) (oi := { dst := some 53, op := Op.fieldAddr 29 (Operand.tmp 7) 1, type := 0, pos := "laws_internal_resolver_b2.go:79", after := #[{ on := 0, ground := Ground.phase }, { on := 1, ground := Ground.phase }, { on := 2, ground := Ground.phase }, { on := 3, ground := Ground.phase }, { on := 4, ground := Ground.phase }, { on := 5, ground := Ground.phase }, { on := 6, ground := Ground.phase }, { on := 7, ground := Ground.phase }, { on := 8, ground := Ground.phase }, { on := 9, ground := Ground.phase }, { on := 10, ground := Ground.phase }, { on := 11, ground := Ground.phase }, { on := 12, ground := Ground.phase }], guard := none }) (v := ?_) rfl (by kernel_rfl) (by kernel_rfl) (by kernel_rfl) (fun _ _ _ h => h) (Or.inl ⟨by rfl, ?_⟩) (by assumption) ?_
      rotate_left
      · intro wq hSw
        obtain ⟨q1, q2⟩ := hSw
        go_simp
        try (with_reducible rfl)
      try go_frame
      have T7' := Q7'.out.of_block (e9 _ (by omega) (by omega))
      have T6' := Q6'.out.of_block (e9 _ (by omega) (by omega))
      have d9 := T7'.cell (i := 1) (by omega)
      have f9 := T7'.frozen 1
      simp only [two] at d9
      have cx10 : (w9.setCell ⟨w.heap.size + 1, 1, none⟩ (.slice (some ⟨g, 0, none⟩) (k + 1) cap)).cell? (x.add k) = some (.string s1) := by rw [← cx9]; exact World.cell?_of_block (blk_setCell_other _ _ _ _ (by rw [add_block]; show _ ≠ w.heap.size + 1; omega))
      have cy10 : (w9.setCell ⟨w.heap.size + 1, 1, none⟩ (.slice (some ⟨g, 0, none⟩) (k + 1) cap)).cell? (y.add k) = some (.string s2) := by rw [← cy9]; exact World.cell?_of_block (blk_setCell_other _ _ _ _ (by rw [add_block]; show _ ≠ w.heap.size + 1; omega))
      refine wpAnyH_ready (rs := [14]) (by kernel_rfl) (by simp) ?_
      refine AllReadyH.cons rfl (fun K hK => ?_) AllReadyH.nil
      go_simp
      refine hK.out _ _ ⟨cx10, cy10⟩ (fun hHeld => ?_)
      clear hK K cx10 cy10
      try go_frame
      refine wpAnyH_done (by kernel_rfl) ?_ _
      have N9 : Pw w9 (w.heap.size + 2) (.slice (some ⟨g, 0, none⟩) (k + 1) cap) (l ++ [(s1, s2)]) := by
        unfold Pw
        rw [List.length_append, hlk.out, pv_append]
        exact o9
      have NP := Lib.hid (N9.to (w' := w9.setCell ⟨w.heap.size + 1, 1, none⟩ (.slice (some ⟨g, 0, none⟩) (k + 1) cap)) (fun q hq => blk_setCell_other _ _ _ _ (by have := (N9.lt hq).1; show q ≠ w.heap.size + 1; omega)))
      have N7 := Lib.hid ((T7'.set 1 (.slice (some ⟨g, 0, none⟩) (k + 1) cap)).congr (g := two (.map none) (.slice (some ⟨g, 0, none⟩) (k + 1) cap)) (fun i hi => by
        match i, hi with
        | 0, _ => rfl
        | 1, _ => rfl))
      have N6 := Lib.hid (T6'.setOther (a := ⟨w.heap.size + 1, 1, none⟩) (by show w.heap.size ≠ w.heap.size + 1; omega) (.slice (some ⟨g, 0, none⟩) (k + 1) cap))
      have NB := Lib.hid (((((QB'.out.alloc QB'.out.size (.cells #[.string s1, .string s2] 32)).drew).grown g9 (by simp; have := QB'.out.size; omega) (fun q e => by have := (Pw.lt PW'.out e).1; omega))).setCell (show w.heap.size ≤ (⟨w.heap.size + 1, 1, none⟩ : Addr).block from Nat.le_succ _) (.slice (some ⟨g, 0, none⟩) (k + 1) cap))
      have NM : Hid (True) := Lib.hid trivial
      have NL : Hid ((l ++ [(s1, s2)]).length = k + 1) := Lib.hid (by rw [List.length_append, hlk.out]; rfl)
      have NO : Hid (Bo (l ++ [(s1, s2)])) := Lib.hid (by
        intro q hq
        rcases List.mem_append.1 hq with hq | hq
        · exact BO.out q hq
        · obtain rfl : q = (s1, s2) := by simpa using hq
          exact ⟨zx, zy⟩)
      clear o9 g9 at9 lt9 e9 hXn hGB cx9 cy9 T7' T6' d9 f9 N9 cx cy d1
      go_wp2
      go_roundw
      case rel => exact ⟨k + 1, _, _, by omega, by go_num, NL, NP, NO, NM, N7.out, N6.out, NB.out⟩
      case measure => simp [intOf]; omega
    · go_simp
      refine hK.out _ _ ⟨cx1 _, cy1 _⟩ (fun hHeld => ?_)
      clear hK K
      try go_frame
      refine wpAnyH_ready (rs := [1]) (by kernel_rfl) (by simp) ?_
      refine AllReadyH.cons rfl (fun K hK => ?_) AllReadyH.nil
      go_simp
      refine hK.out _ _ ⟨cx1 _, cy1 _⟩ (fun hHeld => ?_)
      clear hK K
      try go_frame
      refine wpAnyH_ready (rs := [12]) (by kernel_rfl) (by simp) ?_
      refine AllReadyH.cons rfl (fun K hK => ?_) AllReadyH.nil
      refine step_append_lies _ (by rfl) _ _ _ (by rfl) (w.heap.size + 2) 32 i0 (.agg #[.string { data := #[] }, .string { data := #[] }]) 2 32 Tryf.underlying27 HI.out Z0.out Z1.out Z2.out rfl (by omega) (.slice A k c) k (pv l) (by rfl) (World.ownsRow.drew (World.ownsRow.alloc PW.out _)) ⟨wr.heap.size, 0, none⟩ 1 1 [.string s1, .string s2] (by rfl) (by rfl) (World.news_of_block (cs := #[.string s1, .string s2]) (t := 32) (fr := (0, 0)) (heap_alloc_new wr _)) (by intro u hu; simp only [List.mem_cons, List.not_mem_nil, or_false] at hu; rcases hu with rfl | rfl <;> rfl) (by omega) LEN1 LENB (by simp; omega) (wr.heap.size + 1) (by simp) ?_
      intro g cap w9 o9 g9 at9 lt9
      have hGB : (w.heap.size + 2) ≤ g := by
        rcases at9 with e | e
        · exact (Pw.lt PW'.out e).1
        · omega
      have hXn : ∀ q : Nat, q < (w.heap.size + 2) → some q ≠ (Value.slice A k c).ownBlock := fun q hq e => by
        have := (Pw.lt PW'.out e.symm).1; omega
      have e9 : ∀ q : Nat, q < (w.heap.size + 2) → q < wr.heap.size → w9.heap[q]? = wr.heap[q]? := fun q hq hw => (g9.block q (by simp; omega) (hXn q hq)).trans (blk_alloc_lt _ _ _ hw)
      have cx9 : w9.cell? (x.add k) = some (.string s1) := by rw [← cx]; exact World.cell?_of_block (e9 _ (by rw [add_block]; omega) (by rw [add_block]; omega))
      have cy9 : w9.cell? (y.add k) = some (.string s2) := by rw [← cy]; exact World.cell?_of_block (e9 _ (by rw [add_block]; omega) (by rw [add_block]; omega))
      refine hK.out _ _ ⟨cx9, cy9⟩ (fun hHeld => ?_)
      clear hK K
      try go_frame
      refine wpAnyH_take (i := 13) (oi := { dst := some 53, op := Op.fieldAddr 29 (Operand.tmp 7) 1, type := 0, pos := "laws_internal_resolver_b2.go:79", after := #[{ on := 0, ground := Ground.phase }, { on := 1, ground := Ground.phase }, { on := 2, ground := Ground.phase }, { on := 3, ground := Ground.phase }, { on := 4, ground := Ground.phase }, { on := 5, ground := Ground.phase }, { on := 6, ground := Ground.phase }, { on := 7, ground := Ground.phase }, { on := 8, ground := Ground.phase }, { on := 9, ground := Ground.phase }, { on := 10, ground := Ground.phase }, { on := 11, ground := Ground.phase }, { on := 12, ground := Ground.phase }], guard := none }) (v := ?_) rfl (by kernel_rfl) (by kernel_rfl) (by kernel_rfl) (fun _ _ _ h => h) (Or.inl ⟨by rfl, ?_⟩) (by assumption) ?_
      rotate_left
      · intro wq hSw
        obtain ⟨q1, q2⟩ := hSw
        go_simp
        try (with_reducible rfl)
      try go_frame
      have T7' := Q7'.out.of_block (e9 _ (by omega) (by omega))
      have T6' := Q6'.out.of_block (e9 _ (by omega) (by omega))
      have d9 := T7'.cell (i := 1) (by omega)
      have f9 := T7'.frozen 1
      simp only [two] at d9
      have cx10 : (w9.setCell ⟨w.heap.size + 1, 1, none⟩ (.slice (some ⟨g, 0, none⟩) (k + 1) cap)).cell? (x.add k) = some (.string s1) := by rw [← cx9]; exact World.cell?_of_block (blk_setCell_other _ _ _ _ (by rw [add_block]; show _ ≠ w.heap.size + 1; omega))
      have cy10 : (w9.setCell ⟨w.heap.size + 1, 1, none⟩ (.slice (some ⟨g, 0, none⟩) (k + 1) cap)).cell? (y.add k) = some (.string s2) := by rw [← cy9]; exact World.cell?_of_block (blk_setCell_other _ _ _ _ (by rw [add_block]; show _ ≠ w.heap.size + 1; omega))
      refine wpAnyH_ready (rs := [14]) (by kernel_rfl) (by simp) ?_
      refine AllReadyH.cons rfl (fun K hK => ?_) AllReadyH.nil
      go_simp
      refine hK.out _ _ ⟨cx10, cy10⟩ (fun hHeld => ?_)
      clear hK K cx10 cy10
      try go_frame
      refine wpAnyH_done (by kernel_rfl) ?_ _
      have N9 : Pw w9 (w.heap.size + 2) (.slice (some ⟨g, 0, none⟩) (k + 1) cap) (l ++ [(s1, s2)]) := by
        unfold Pw
        rw [List.length_append, hlk.out, pv_append]
        exact o9
      have NP := Lib.hid (N9.to (w' := w9.setCell ⟨w.heap.size + 1, 1, none⟩ (.slice (some ⟨g, 0, none⟩) (k + 1) cap)) (fun q hq => blk_setCell_other _ _ _ _ (by have := (N9.lt hq).1; show q ≠ w.heap.size + 1; omega)))
      have N7 := Lib.hid ((T7'.set 1 (.slice (some ⟨g, 0, none⟩) (k + 1) cap)).congr (g := two (.map none) (.slice (some ⟨g, 0, none⟩) (k + 1) cap)) (fun i hi => by
        match i, hi with
        | 0, _ => rfl
        | 1, _ => rfl))
      have N6 := Lib.hid (T6'.setOther (a := ⟨w.heap.size + 1, 1, none⟩) (by show w.heap.size ≠ w.heap.size + 1; omega) (.slice (some ⟨g, 0, none⟩) (k + 1) cap))
      have NB := Lib.hid (((((QB'.out.alloc QB'.out.size (.cells #[.string s1, .string s2] 32)).drew).grown g9 (by simp; have := QB'.out.size; omega) (fun q e => by have := (Pw.lt PW'.out e).1; omega))).setCell (show w.heap.size ≤ (⟨w.heap.size + 1, 1, none⟩ : Addr).block from Nat.le_succ _) (.slice (some ⟨g, 0, none⟩) (k + 1) cap))
      have NM : Hid (True) := Lib.hid trivial
      have NL : Hid ((l ++ [(s1, s2)]).length = k + 1) := Lib.hid (by rw [List.length_append, hlk.out]; rfl)
      have NO : Hid (Bo (l ++ [(s1, s2)])) := Lib.hid (by
        intro q hq
        rcases List.mem_append.1 hq with hq | hq
        · exact BO.out q hq
        · obtain rfl : q = (s1, s2) := by simpa using hq
          exact ⟨zx, zy⟩)
      clear o9 g9 at9 lt9 e9 hXn hGB cx9 cy9 T7' T6' d9 f9 N9 cx cy d1
      go_wp2
      go_roundw
      case rel => exact ⟨k + 1, _, _, by omega, by go_num, NL, NP, NO, NM, N7.out, N6.out, NB.out⟩
      case measure => simp [intOf]; omega
  obtain rfl : k = n := by omega
  have d0 := HR7.cell (i := 0) (by omega)
  have d1 := HR7.cell (i := 1) (by omega)
  have e0 := HR6.cell (i := 0) (by omega)
  have e1 := HR6.cell (i := 1) (by omega)
  have g0 := HR6.frozen 0
  have g1' := HR6.frozen 1
  simp only [two] at d0 d1 e0 e1
  clear HR7 HR6 hbel
  go_wp2
  have S2 := (Q6'.out.set 0 (.map none)).set 1 (.slice A k c)
  have s0 := S2.cell (i := 0) (by omega)
  have s1 := S2.cell (i := 1) (by omega)
  simp at s0 s1
  have NB := (QB'.out.setCell (show w.heap.size ≤ (⟨w.heap.size, 0, none⟩ : Addr).block from Nat.le_refl _) (.map none)).setCell (show w.heap.size ≤ (⟨w.heap.size, 1, none⟩ : Addr).block from Nat.le_refl _) (.slice A k c)
  have NP := Pw.to PW'.out (w' := (wr.setCell ⟨w.heap.size, 0, none⟩ (.map none)).setCell ⟨w.heap.size, 1, none⟩ (.slice A k c)) (fun q hq => (blk_setCell_other _ _ _ _ (by have := (Pw.lt PW'.out hq).1; show q ≠ w.heap.size; omega)).trans (blk_setCell_other _ _ _ _ (by have := (Pw.lt PW'.out hq).1; show q ≠ w.heap.size; omega)))
  have NM : Mp ((wr.setCell ⟨w.heap.size, 0, none⟩ (.map none)).setCell ⟨w.heap.size, 1, none⟩ (.slice A k c)) w.heap.size (.map none) := .inl rfl
  exact bodyPost_ret (v := .agg #[(.map none), .slice A k c]) (by simp [results, Tryf.results6, go_sem, s0, s1]) rfl ⟨_, _, l, rfl, NM, Pw.less NP (by omega), by have := hlk.out; omega, BO.out, fun q hq => (by cases hq), NB⟩
theorem build6 (A0 : Option Addr) (n0 c0 : Nat) (l0 : List ByteArray) (A1 : Option Addr) (n1 c1 : Nat) (l1 : List ByteArray) (A2 : Option Addr) (n2 c2 : Nat) (l2 : List ByteArray) (w : World) (L0 : l0.length = n0) (g0 : n0 ≤ 1048576) (r0 : Rd w w.heap.size A0 (sv l0)) (m0 : ∀ s ∈ l0, s.size ≤ 1048576) (L1 : l1.length = n1) (g1 : n1 ≤ 1048576) (r1 : Rd w w.heap.size A1 (sv l1)) (m1 : ∀ s ∈ l1, s.size ≤ 1048576) (L2 : l2.length = n2) (g2 : n2 ≤ 1048576) (r2 : Rd w w.heap.size A2 (sv l2)) (m2 : ∀ s ∈ l2, s.size ≤ 1048576) :
    Calls Tryf.prog 6 #[.slice A0 n0 c0, .slice A1 n1 c1, .slice A2 n2 c2] w (Bld w) := by
  rcases Nat.eq_zero_or_pos n0 with rfl | h0
  · exact build_none A0 c0 l0 A1 n1 c1 l1 A2 n2 c2 l2 w r0 m0 L1 g1 r1 m1 L2 g2 r2 m2
  · exact build_some A0 n0 c0 l0 A1 n1 c1 l1 A2 n2 c2 l2 w L0 g0 r0 m0 L1 g1 r1 m1 L2 g2 r2 m2 h0
end Go.Proofs.YtcfhlgimbipgcaaFmt.Ixc
