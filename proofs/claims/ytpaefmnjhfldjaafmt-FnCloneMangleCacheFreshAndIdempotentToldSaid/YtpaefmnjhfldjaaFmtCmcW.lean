/- The walk of the law FnCloneMangleCacheFreshAndIdempotent: it returns true for every input. No condition. -/
import Derived.Test.YtpaefmnjhfldjaaFmtCmb
import Derived.Deep.RegionHeld3
namespace Go.Proofs.YtpaefmnjhfldjaaFmt.fnCloneMangleCacheFreshAndIdempotent
open Go.RowKit Go.Maps Go.Deep Go.ChangeMaps Go.MapKept Go.Proofs.YtpaefmnjhfldjaaFmt.Base Go.Proofs.YtpaefmnjhfldjaaFmt.Sls Go.Proofs.YtpaefmnjhfldjaaFmt.Cls Go.Proofs.YtpaefmnjhfldjaaFmt.Mps Go.Proofs.YtpaefmnjhfldjaaFmt.Mpd Go.Proofs.YtpaefmnjhfldjaaFmt.Cma Go.Proofs.YtpaefmnjhfldjaaFmt.Cmb
set_option linter.unusedVariables false
/-- A list that came in, opened. -/
structure In (w : World) (A : Option Addr) (n c : Nat) (l : List ByteArray) : Prop where
  len : l.length = n
  rd : Rd w w.heap.size A (sv l)
  max : ∀ s ∈ l, s.size ≤ maxLen
  nil : A = none → n = 0 ∧ c = 0
  le : n ≤ maxLen
theorem in_of {w : World} {a : Option Addr} {len cap : Nat} {zs : List ByteArray} (h : IsStrs w a len cap zs) : ∃ l, In w a len cap l := by
  obtain ⟨⟨l, h1, h2, h3⟩, h4, h5⟩ := rd_of_strs h
  exact ⟨l, h1, h2, h3, h4, h5⟩
theorem In.short {w : World} {A : Option Addr} {n c : Nat} {l : List ByteArray} (h : In w A n c l) (ht : tot l ≤ 1048576) : ∀ s ∈ l, s.size ≤ 1048576 := by
  intro s hs
  obtain ⟨k, hk, rfl⟩ := List.mem_iff_getElem.1 hs
  have := tot_mem l k hk
  omega
theorem rd_own {w : World} {base e n c : Nat} {A : Option Addr} {xs : List Value} (h : Own w base e (.slice A n c) xs) (hn : n = xs.length) : Rd w w.heap.size A xs := by
  subst hn; exact h.rd
theorem MD.heap {w w' : World} {b n : Nat} {D : DataW Value} (h : MD w b n D) (e : w'.heap[b]? = w.heap[b]?) : MD w' b n D := by
  obtain ⟨es, clock, h1, h2⟩ := h
  exact ⟨es, clock, e.trans h1, h2⟩
theorem held_at {D : DataW Value} {l : List ByteArray} (hG : Mpd.Good D) (hK : Keys D l) {s : ByteArray} (hs : s ∈ l) : Maps.has D (kl s) = true ∧ ∃ o, ∀ z, D.atKey (kl s) z = .held (shp o) := by
  have h := (hK (kl s)).2 ⟨s, hs, rfl⟩
  obtain ⟨o, _, ho⟩ := hG _ h
  exact ⟨h, o, ho⟩
/-- m[s] -/
theorem look_at {w : World} {b n : Nat} {D : DataW Value} (h : MD w b n D) {s : ByteArray} (hs : s.size ≤ maxLen) {u : Value} (ho : ∀ z, D.atKey (kl s) z = .held u) : (Instr.lookup 28 (.map (some b)) (.string s) false).run Tryf.prog w = .ok u w := by
  obtain ⟨v, ps, hrun, hv⟩ := h.lookup law9 Tryf.underlying28 (zero20 w) (zd := .held .nilIface) (zp := []) rfl (WideMaps.keyOf_string_mk Tryf.underlying9 hs)
  rw [hrun]
  unfold self at hv
  injection hv with hv
  injection hv with hv _
  have := ho (.held .nilIface)
  unfold kl at this
  rw [this] at hv
  injection hv with hv
  rw [hv]
/-- v, ok := m[s] -/
theorem look_ok_at {w : World} {b n : Nat} {D : DataW Value} (h : MD w b n D) {s : ByteArray} (hs : s.size ≤ maxLen) {u : Value} (hh : Maps.has D (kl s) = true) (ho : ∀ z, D.atKey (kl s) z = .held u) : (Instr.lookup 28 (.map (some b)) (.string s) true).run Tryf.prog w = .ok (.tuple #[u, .bool true]) w := by
  obtain ⟨v, ps, hrun, hv⟩ := h.look_ok law9 Tryf.underlying28 (zero20 w) (zd := .held .nilIface) (zp := []) rfl (WideMaps.keyOf_string_mk Tryf.underlying9 hs)
  rw [hrun]
  unfold self at hv
  injection hv with hv
  injection hv with hv _
  have := ho (.held .nilIface)
  unfold kl at this hh
  rw [this] at hv
  injection hv with hv
  rw [hv, hh]
theorem size_none {w : World} {b n : Nat} {D : DataW Value} (h : MD w b n D) (hk : ∀ key, Maps.has D key = false) : Maps.size D = 0 := by
  have e : D = .map [] := Maps.ext (h.canon law9) canon_empty (fun k => by rw [hk k]; rfl) (fun k z hh => by rw [hk k] at hh; cases hh)
  rw [e]; rfl
/-- What is left when the first k keys have been struck. -/
def Left (D : DataW Value) (l : List ByteArray) (k : Nat) : Prop := ∀ key, Maps.has D key = true → ∃ s, s ∈ l ∧ key = kl s ∧ s ∉ l.take k
theorem left_step {D : DataW Value} {l : List ByteArray} {k : Nat} (h : Left D l k) (hk : k < l.length) : Left (D.del (kl l[k])) l (k + 1) := by
  intro key hh
  by_cases e : key = kl l[k]
  · subst e; rw [has_del_same] at hh; cases hh
  · rw [has_del_other e] at hh
    obtain ⟨s, h1, rfl, h3⟩ := h key hh
    refine ⟨s, h1, rfl, fun hm => ?_⟩
    rw [List.take_succ_eq_append_getElem hk, List.mem_append, List.mem_singleton] at hm
    rcases hm with hm | rfl
    · exact h3 hm
    · exact e rfl
theorem left_end {D : DataW Value} {l : List ByteArray} {k : Nat} (h : Left D l k) (hk : l.length ≤ k) (key : Lit) : Maps.has D key = false := by
  cases hh : Maps.has D key with
  | false => rfl
  | true =>
    obtain ⟨s, h1, _, h3⟩ := h key hh
    rw [List.take_of_length_le hk] at h3
    exact absurd h1 h3
theorem grown_same {w0 w1 w2 : World} {r : Option Nat} (h1 : w0.grownBy w1 r) (h2 : w1.grownBy w2 r) : w0.grownBy w2 r :=
  ⟨h2.os.trans h1.os, h2.tape.trans h1.tape, h2.output.trans h1.output, Nat.le_trans h1.size h2.size, fun i hi hne => (h2.block i (Nat.lt_of_lt_of_le hi h1.size) hne).trans (h1.block i hi hne)⟩
def Dl (w7 : World) (Q1 z : Nat) (l : List ByteArray) (n : Nat) (i : Value) (wr : World) : Prop :=
  ∃ (k : Nat) (D : DataW Value), k ≤ n ∧ i = .int .i64 k ∧ MD wr Q1 z D ∧ Left D l k ∧ w7.grownBy wr (some Q1)
set_option maxRecDepth 100000 in
set_option maxHeartbeats 1200000 in
theorem main (a0 : Bool) (A1 : Option Addr) (n1 c1 : Nat) (l1 : List ByteArray) (A2 : Option Addr) (n2 c2 : Nat) (l2 : List ByteArray) (A3 : Option Addr) (n3 c3 : Nat) (l3 : List Bool) (w : World) (i1 : In w A1 n1 c1 l1) (i2 : In w A2 n2 c2 l2) (h3 : l3.length = n3) (r3 : Rd w w.heap.size A3 (tv l3)) (e3 : A3 = none → n3 = 0 ∧ c3 = 0) (m3 : n3 ≤ maxLen) :
    Calls Tryf.prog 3 #[.bool a0, .slice A1 n1 c1, .slice A2 n2 c2, .slice A3 n3 c3] w fun e w' => e = .returned (.bool true) ∧ Below w.heap.size w w' := by
  have C4 := Lib.hid (bytes4 (.bool a0) A1 n1 c1 l1 A2 n2 c2 l2 A3 n3 c3 w i1.len i1.le i1.rd i1.max i2.len i2.le i2.rd i2.max m3)
  have I1 := Lib.hid i1; have I2 := Lib.hid i2
  have H3 := Lib.hid h3; have R3 := Lib.hid r3; have E3 := Lib.hid e3
  clear i1 i2 h3 r3 e3 m3
  go_enter Tryf.func3, Tryf.ntmps3
  go_wp2_with fail
  refine C4.out.mono ?_
  rintro e w' ⟨ok, rfl, hok, rfl⟩
  clear C4
  cases ok
  · clear hok
    go_wp2_with fail
    go_ret
    exact ⟨rfl, Below.refl _ _⟩
  have hsum := hok rfl
  have z1 : n1 ≤ 1048576 := by omega
  have z2 : n2 ≤ 1048576 := by omega
  have z3 : n3 ≤ 1048576 := by omega
  have S1 := Lib.hid (I1.out.short (by omega)); have S2 := Lib.hid (I2.out.short (by omega))
  clear hok hsum
  by_cases t1 : (65536 : Int) < (n1 : Int)
  · go_wp2_with fail
    go_ret
    exact ⟨rfl, Below.refl _ _⟩
  by_cases t2 : (65536 : Int) < (n2 : Int)
  · go_wp2_with fail
    go_ret
    exact ⟨rfl, Below.refl _ _⟩
  by_cases t3 : (65536 : Int) < (n3 : Int)
  · go_wp2_with fail
    go_ret
    exact ⟨rfl, Below.refl _ _⟩
  have C5 := Lib.hid (sum5 A1 n1 c1 l1 A2 n2 c2 l2 A3 n3 c3 w I1.out.len z1 S1.out I1.out.rd I2.out.len z2 S2.out I2.out.rd z3)
  go_wp2_with fail
  refine C5.out.mono ?_
  rintro e w' ⟨sm, rfl, rfl⟩
  clear C5 S1 S2
  by_cases t4 : (1048576 : Int) < (sm : Int)
  · go_wp2_with fail
    go_ret
    exact ⟨rfl, Below.refl _ _⟩
  have K1 := Lib.hid (cloneS A1 n1 c1 l1 w I1.out.len z1 I1.out.nil I1.out.rd)
  go_wp2_with fail
  clear t1 t2 t3 t4
  refine K1.out.mono ?_
  rintro e w1 ⟨B1, d1, rfl, o1, b1⟩
  have K2 := Lib.hid (cloneS A2 n2 c2 l2 w1 I2.out.len z2 I2.out.nil (I2.out.rd.later b1))
  have O1 := Lib.hid o1; have BB1 := Lib.hid b1; have RR3 := Lib.hid (R3.out.later b1)
  clear o1 b1 K1 R3
  go_wp2_with fail
  refine K2.out.mono ?_
  rintro e w2 ⟨B2, d2, rfl, o2, b2⟩
  have K3 := Lib.hid (cloneT A3 n3 c3 l3 w2 H3.out z3 E3.out (RR3.out.later b2))
  have O2 := Lib.hid o2; have BB2 := Lib.hid (below_join BB1.out BB1.out.size b2); have O12 := Lib.hid (O1.out.keep b2)
  clear o2 b2 K2 RR3 O1
  go_wp2_with fail
  refine K3.out.mono ?_
  rintro e w3 ⟨B3, d3, rfl, o3, b3⟩
  have BB3 := Lib.hid (below_join BB2.out BB2.out.size b3)
  have r1 : Rd w3 w3.heap.size B1 (sv l1) := rd_own (O12.out.keep b3) (by rw [sv_len, I1.out.len])
  have r2 : Rd w3 w3.heap.size B2 (sv l2) := rd_own (O2.out.keep b3) (by rw [sv_len, I2.out.len])
  have r3 : Rd w3 w3.heap.size B3 (tv l3) := rd_own o3 (by rw [tv_len, H3.out])
  have K8 := Lib.hid (build8 B1 n1 d1 l1 B2 n2 d2 l2 B3 n3 d3 l3 w3 I1.out.len z1 I1.out.max r1 I2.out.len z2 r2 H3.out z3 r3)
  have R1 := Lib.hid r1
  clear o3 b3 K3 r1 r2 r3 O12 O2 BB1 BB2
  cases a0
  · go_wp2_with fail
    refine K8.out.mono ?_
    rintro e w4 (⟨D, rfl, m4, hG, hK, b4⟩ | ⟨rfl, b4⟩)
    · have hsz : Maps.size D ≤ 1048576 := by have := m4.size_le; have := I1.out.len; omega
      obtain ⟨M, hM⟩ : ∃ M, M = w3.heap.size := ⟨_, rfl⟩
      have lM := m4.lt
      have GB4 := Lib.hid (below_join BB3.out BB3.out.size b4)
      have M4 := Lib.hid m4; have HG := Lib.hid hG; have HK := Lib.hid hK
      have RB := Lib.hid (R1.out.below b4)
      rw [← hM] at lM
      have MQ : Hid (MD w4 M l1.length D) := Lib.hid (by rw [hM]; exact m4)
      have HMM := Lib.hid hM
      rw [← hM]
      clear m4 hG hK b4 K8 R1 M4 hM
      go_wp2_with (at_len; refine wpList_len_own _ rfl _ 28 rfl 9 20 Tryf.underlying28 self M _ D rfl MQ.out ?_)
      refine (clone9 M _ D w4 MQ.out HG.out hsz).mono ?_
      rintro e w5 ⟨rfl, m5, b5⟩
      obtain ⟨Q1, hQ1⟩ : ∃ Q1, Q1 = w4.heap.size + 1 := ⟨_, rfl⟩
      rw [← hQ1] at m5 ⊢
      have P1 : Hid (MD w5 Q1 (Maps.size D) D) := Lib.hid m5
      have PM : Hid (MD w5 M l1.length D) := Lib.hid (MD.heap MQ.out (b5.block M lM))
      have lQ1 := m5.lt
      have hMQ : M < Q1 := by omega
      have RB5 := Lib.hid (RB.out.below (b5.mono (by have := HMM.out; omega)))
      have GB5 := Lib.hid (below_join GB4.out GB4.out.size b5)
      have z45 := b5.size
      clear m5 b5 MQ RB GB4 hQ1
      go_wp2_with fail
      refine (clone9 Q1 _ D w5 P1.out HG.out hsz).mono ?_
      rintro e w6 ⟨rfl, m6, b6⟩
      obtain ⟨Q2, hQ2⟩ : ∃ Q2, Q2 = w5.heap.size + 1 := ⟨_, rfl⟩
      rw [← hQ2] at m6 ⊢
      have P2 : Hid (MD w6 Q2 (Maps.size D) D) := Lib.hid m6
      have PQ1 : Hid (MD w6 Q1 (Maps.size D) D) := Lib.hid (MD.heap P1.out (b6.block Q1 lQ1))
      have PMM : Hid (MD w6 M l1.length D) := Lib.hid (MD.heap PM.out (b6.block M (by omega)))
      have hQQ : Q1 < Q2 := by omega
      have RB6 := Lib.hid (RB5.out.below (b6.mono (by have := HMM.out; omega)))
      have GB6 := Lib.hid (below_join GB5.out GB5.out.size b6)
      have z6 : M ≤ w6.heap.size := by have := b6.size; omega
      clear m6 b6 RB5 GB5 hQ2 P1 PM lQ1 lM z45
      have hnl := fun (W : World) (b : Nat) => run_eql_map_nil (P := Tryf.prog) W 28 9 20 (some b) Tryf.underlying28
      obtain ⟨SZ, hSZ⟩ : ∃ SZ, SZ = Maps.size D := ⟨_, rfl⟩
      have HSZ := Lib.hid hSZ
      have nn : ((SZ : Int) != (SZ : Int)) = false := by simp
      rw [← hSZ]
      clear hSZ
      have len1 : (Builtin.len_ #[28] 3 #[.map (some Q1)]).run Tryf.prog w6 = .ok (.int .i64 SZ) w6 := by rw [HSZ.out]; exact PQ1.out.len Tryf.underlying28 3
      have len2 : (Builtin.len_ #[28] 3 #[.map (some Q2)]).run Tryf.prog w6 = .ok (.int .i64 SZ) w6 := by rw [HSZ.out]; exact P2.out.len Tryf.underlying28 3
      go_wp2
      clear len1 len2 hnl
      go_loopw [14] (fun i wr => ∃ k q : Nat, k ≤ n1 ∧ i = .int .i64 k ∧ wr = w6.drewN q) (fun i _ => n1 - (intOf i).toNat)
      case atStart => exact ⟨0, 0, by omega, rfl, rfl⟩
      case round =>
        obtain ⟨k, q, hk, rfl, rfl⟩ := hrel
        by_cases hlt : k < n1
        · have hkl : k < l1.length := by rw [I1.out.len]; exact hlt
          obtain ⟨x, rfl, hxb, cx0⟩ := RB6.out.at_ (sv_at l1 k hkl)
          have hz := I1.out.max _ (List.getElem_mem hkl)
          have hmem : l1[k] ∈ l1 := List.getElem_mem hkl
          obtain ⟨hh, o, ho⟩ := held_at HG.out HK.out hmem
          have ne := neq_same o
          obtain ⟨s1, hs1⟩ : ∃ s, s = l1[k] := ⟨_, rfl⟩
          rw [← hs1] at cx0 hz ho
          have CQ : Hid (∀ wq : World, wq.heap = w6.heap → wq.cell? (x.add k) = some (.string s1)) := Lib.hid (fun wq e => by rw [← cx0]; unfold World.cell?; rw [e])
          have L1 : Hid (∀ wq : World, wq.heap = w6.heap → (Instr.lookup 28 (.map (some Q1)) (.string s1) false).run Tryf.prog wq = .ok (shp o) wq) := Lib.hid (fun wq e => look_at (MD.heap PQ1.out (by rw [e])) hz ho)
          have L2 : Hid (∀ wq : World, wq.heap = w6.heap → (Instr.lookup 28 (.map (some Q2)) (.string s1) false).run Tryf.prog wq = .ok (shp o) wq) := Lib.hid (fun wq e => look_at (MD.heap P2.out (by rw [e])) hz ho)
          have x0 : (0 : Int) ≤ (k : Int) := by omega
          have x1 : (k : Int) < (n1 : Int) := by omega
          clear hs1 cx0 hz ho hh hmem
          rcases o with _ | v
          all_goals
            unfold shp at ne L1 L2
            have NE := Lib.hid ne
            clear ne
            go_wp2
            refine wp_region_held_drew (S := fun w' => w'.heap = w6.heap) (by kernel_rfl) rfl (fun hHeld => ?_)
            refine wpAnyH_take (i := 0) (oi := { dst := some 98, op := Op.move (Operand.tmp 13), type := 28, pos := "laws_pkg_api_b3.go:425", after := #[], guard := none }) (v := ?_) rfl (by kernel_rfl) (by kernel_rfl) (by kernel_rfl) (fun _ _ _ h => h) (Or.inl ⟨by rfl, ?_⟩) (by assumption) ?_
            rotate_left
            · intro wq hSw
              go_simp
              try (with_reducible rfl)
            try go_frame
            refine wpAnyH_take (i := 1) (oi := { dst := some 99, op := Op.move (Operand.tmp 1), type := 22, pos := "laws_pkg_api_b3.go:425", after := #[], guard := none }) (v := ?_) rfl (by kernel_rfl) (by kernel_rfl) (by kernel_rfl) (fun _ _ _ h => h) (Or.inl ⟨by rfl, ?_⟩) (by assumption) ?_
            rotate_left
            · intro wq hSw
              go_simp
              try (with_reducible rfl)
            try go_frame
            refine wpAnyH_take (i := 2) (oi := { dst := some 100, op := Op.move (Operand.tmp 14), type := 3, pos := "laws_pkg_api_b3.go:425", after := #[], guard := none }) (v := ?_) rfl (by kernel_rfl) (by kernel_rfl) (by kernel_rfl) (fun _ _ _ h => h) (Or.inl ⟨by rfl, ?_⟩) (by assumption) ?_
            rotate_left
            · intro wq hSw
              go_simp
              try (with_reducible rfl)
            try go_frame
            refine wpAnyH_take (i := 3) (oi := { dst := some 101, op := Op.indexAddr 22 (Operand.tmp 99) (Operand.tmp 100), type := 0, pos := "laws_pkg_api_b3.go:425", after := #[{ on := 1, ground := Ground.data }, { on := 2, ground := Ground.data }], guard := none }) (v := ?_) rfl (by kernel_rfl) (by kernel_rfl) (by kernel_rfl) (fun _ _ _ h => h) (Or.inl ⟨by rfl, ?_⟩) (by assumption) ?_
            rotate_left
            · intro wq hSw
              go_simp
              try (with_reducible rfl)
            try go_frame
            refine wpAnyH_take (i := 4) (oi := { dst := some 102, op := Op.load 9 (Operand.tmp 101), type := 9, pos := "laws_pkg_api_b3.go:425", after := #[{ on := 3, ground := Ground.data }], guard := none }) (v := ?_) rfl (by kernel_rfl) (by kernel_rfl) (by kernel_rfl) (fun _ _ _ h => h) (Or.inl ⟨by rfl, ?_⟩) (by assumption) ?_
            rotate_left
            · intro wq hSw
              have cq : wq.cell? (x.add k) = some (.string s1) := (CQ.out wq hSw)
              go_simp
              try (with_reducible rfl)
            try go_frame
            refine wpAnyH_take (i := 5) (oi := { dst := some 103, op := Op.lookup 28 (Operand.tmp 98) (Operand.tmp 102) false, type := 20, pos := "laws_pkg_api_b3.go:425", after := #[{ on := 0, ground := Ground.data }, { on := 4, ground := Ground.data }], guard := none }) (v := ?_) rfl (by kernel_rfl) (by kernel_rfl) (by kernel_rfl) (fun _ _ _ h => h) (Or.inl ⟨by rfl, ?_⟩) (by assumption) ?_
            rotate_left
            · intro wq hSw
              have lq := L2.out wq hSw
              go_simp
              try (with_reducible rfl)
            try go_frame
            refine wpAnyH_take (i := 6) (oi := { dst := some 104, op := Op.move (Operand.tmp 12), type := 28, pos := "laws_pkg_api_b3.go:425", after := #[], guard := none }) (v := ?_) rfl (by kernel_rfl) (by kernel_rfl) (by kernel_rfl) (fun _ _ _ h => h) (Or.inl ⟨by rfl, ?_⟩) (by assumption) ?_
            rotate_left
            · intro wq hSw
              go_simp
              try (with_reducible rfl)
            try go_frame
            refine wpAnyH_take (i := 7) (oi := { dst := some 105, op := Op.move (Operand.tmp 1), type := 22, pos := "laws_pkg_api_b3.go:425", after := #[], guard := none }) (v := ?_) rfl (by kernel_rfl) (by kernel_rfl) (by kernel_rfl) (fun _ _ _ h => h) (Or.inl ⟨by rfl, ?_⟩) (by assumption) ?_
            rotate_left
            · intro wq hSw
              go_simp
              try (with_reducible rfl)
            try go_frame
            refine wpAnyH_take (i := 8) (oi := { dst := some 106, op := Op.move (Operand.tmp 14), type := 3, pos := "laws_pkg_api_b3.go:425", after := #[], guard := none }) (v := ?_) rfl (by kernel_rfl) (by kernel_rfl) (by kernel_rfl) (fun _ _ _ h => h) (Or.inl ⟨by rfl, ?_⟩) (by assumption) ?_
            rotate_left
            · intro wq hSw
              go_simp
              try (with_reducible rfl)
            try go_frame
            refine wpAnyH_take (i := 9) (oi := { dst := some 107, op := Op.indexAddr 22 (Operand.tmp 105) (Operand.tmp 106), type := 0, pos := "laws_pkg_api_b3.go:425", after := #[{ on := 7, ground := Ground.data }, { on := 8, ground := Ground.data }], guard := none }) (v := ?_) rfl (by kernel_rfl) (by kernel_rfl) (by kernel_rfl) (fun _ _ _ h => h) (Or.inl ⟨by rfl, ?_⟩) (by assumption) ?_
            rotate_left
            · intro wq hSw
              go_simp
              try (with_reducible rfl)
            try go_frame
            refine wpAnyH_take (i := 10) (oi := { dst := some 108, op := Op.load 9 (Operand.tmp 107), type := 9, pos := "laws_pkg_api_b3.go:425", after := #[{ on := 9, ground := Ground.data }], guard := none }) (v := ?_) rfl (by kernel_rfl) (by kernel_rfl) (by kernel_rfl) (fun _ _ _ h => h) (Or.inl ⟨by rfl, ?_⟩) (by assumption) ?_
            rotate_left
            · intro wq hSw
              have cq : wq.cell? (x.add k) = some (.string s1) := (CQ.out wq hSw)
              go_simp
              try (with_reducible rfl)
            try go_frame
            refine wpAnyH_take (i := 11) (oi := { dst := some 109, op := Op.lookup 28 (Operand.tmp 104) (Operand.tmp 108) false, type := 20, pos := "laws_pkg_api_b3.go:425", after := #[{ on := 6, ground := Ground.data }, { on := 10, ground := Ground.data }], guard := none }) (v := ?_) rfl (by kernel_rfl) (by kernel_rfl) (by kernel_rfl) (fun _ _ _ h => h) (Or.inl ⟨by rfl, ?_⟩) (by assumption) ?_
            rotate_left
            · intro wq hSw
              have lq := L1.out wq hSw
              go_simp
              try (with_reducible rfl)
            try go_frame
            refine wpAnyH_take (i := 12) (oi := { dst := some 110, op := Op.binOp BinOp.neq 20 (Operand.tmp 103) (Operand.tmp 109) 20, type := 4, pos := "laws_pkg_api_b3.go:425", after := #[{ on := 5, ground := Ground.data }, { on := 11, ground := Ground.data }], guard := none }) (v := ?_) rfl (by kernel_rfl) (by kernel_rfl) (by kernel_rfl) (fun _ _ _ h => h) (Or.inl ⟨by rfl, ?_⟩) (by assumption) ?_
            rotate_left
            · intro wq hSw
              have nq := NE.out wq
              go_simp
              try (with_reducible rfl)
            try go_frame
            refine wpAnyH_done (by kernel_rfl) ?_ _
            go_wp2
            go_roundw
            case rel => exact ⟨k + 1, q + 1, by omega, by go_num, rfl⟩
            case measure => simp [intOf]; omega
        · obtain rfl : k = n1 := by omega
          have p1 : MD (w6.drewN q) Q1 (Maps.size D) D := MD.heap PQ1.out rfl
          have p2 : MD (w6.drewN q) Q2 (Maps.size D) D := MD.heap P2.out rfl
          have pm : MD (w6.drewN q) M l1.length D := MD.heap PMM.out rfl
          have rb : Rd (w6.drewN q) w3.heap.size B1 (sv l1) := RB6.out.to (fun _ _ => rfl)
          have gb : Below w.heap.size w (w6.drewN q) := below_draws GB6.out q
          have z7 : M ≤ (w6.drewN q).heap.size := z6
          generalize w6.drewN q = w7 at p1 p2 pm rb gb z7 ⊢
          have F1 := Lib.hid p1; have F2 := Lib.hid p2; have FM := Lib.hid pm; have FR := Lib.hid rb; have FG := Lib.hid gb
          have lq1 := p1.lt
          have lq2 := p2.lt
          have lqm := pm.lt
          have wz := BB3.out.size
          clear p1 p2 pm rb gb RB6 GB6 PQ1 P2 PMM
          go_wp2
          go_loopw [15] (fun i wr => Dl w7 Q1 (Maps.size D) l1 k i wr) (fun i _ => k - (intOf i).toNat)
          case atStart => exact ⟨0, D, by omega, rfl, F1.out, fun key h => (by obtain ⟨s, h1, h2⟩ := (HK.out key).1 h; exact ⟨s, h1, h2, by simp⟩), World.grownBy.refl _ _⟩
          case round =>
            obtain ⟨j, D', hj, rfl, hmd, hlf, hgr⟩ := hrel
            by_cases hlt2 : j < k
            · have hjl : j < l1.length := by rw [I1.out.len]; exact hlt2
              obtain ⟨x, rfl, hxb, cx0⟩ := FR.out.at_ (sv_at l1 j hjl)
              have hz := I1.out.max _ (List.getElem_mem hjl)
              have hxm : x.block < M := by have := HMM.out; omega
              have cx : wr.cell? (x.add j) = some (.string l1[j]) := by
                rw [← cx0]; unfold World.cell?; rw [add_block, hgr.block x.block (by omega) (by simp; omega)]
              have LS := Lib.hid (left_step hlf hjl)
              obtain ⟨s1, hs1⟩ : ∃ s, s = l1[j] := ⟨_, rfl⟩
              rw [← hs1] at cx hz LS
              have HMD := Lib.hid hmd; have HGR := Lib.hid hgr; have HZ := Lib.hid hz
              have x0 : (0 : Int) ≤ (j : Int) := by omega
              have x1 : (j : Int) < (k : Int) := by omega
              clear hs1 cx0 hz hmd hlf hgr
              go_wp2_with (at_delete; refine wpList_delete_own _ rfl _ _ 28 9 rfl 20 law9 Tryf.underlying28 self Q1 _ D' rfl HMD.out _ _ rfl (WideMaps.keyOf_string_mk Tryf.underlying9 HZ.out) ?_; intro w8 hm8 ht8; go_frame)
              have R8 : Hid (Dl w7 Q1 (Maps.size D) l1 k (.int .i64 ((j : Int) + 1)) w8) := Lib.hid ⟨j + 1, _, by omega, by go_num, hm8, LS.out, grown_same HGR.out ht8.grown⟩
              clear hm8 ht8
              go_roundw
              case rel => first | exact R8.out | ((repeat apply Exists.intro); exact ⟨R8.out, by simp⟩)
              case measure => simp [intOf]; omega
            · obtain rfl : j = k := by omega
              have h0 := size_none hmd (left_end hlf (by rw [I1.out.len]; omega))
              have lenA : (Builtin.len_ #[28] 3 #[.map (some Q1)]).run Tryf.prog wr = .ok (.int .i64 0) wr := by rw [hmd.len Tryf.underlying28 3, h0]; rfl
              have g2 : MD wr Q2 (Maps.size D) D := MD.heap F2.out (hgr.block Q2 lq2 (by simp; omega))
              have gm : MD wr M l1.length D := MD.heap FM.out (hgr.block M lqm (by simp; omega))
              have lenB : (Builtin.len_ #[28] 3 #[.map (some M)]).run Tryf.prog wr = .ok (.int .i64 SZ) wr := by rw [HSZ.out]; exact gm.len Tryf.underlying28 3
              have lenC : (Builtin.len_ #[28] 3 #[.map (some Q2)]).run Tryf.prog wr = .ok (.int .i64 SZ) wr := by rw [HSZ.out]; exact g2.len Tryf.underlying28 3
              have rb : Rd wr w3.heap.size B1 (sv l1) := FR.out.to (fun p hp => by unfold World.cell?; rw [hgr.block p.block (by have := HMM.out; omega) (by simp; have := HMM.out; omega)])
              have gb : Below w.heap.size w wr := FG.out.trans ⟨hgr.os, hgr.tape, hgr.output, hgr.size, fun i hi => hgr.block i (by have := FG.out.size; omega) (by simp; have := HMM.out; omega)⟩
              have G2 := Lib.hid g2; have GM := Lib.hid gm; have RB := Lib.hid rb; have GB := Lib.hid gb
              clear h0 g2 gm rb gb hmd hlf hgr F1 F2 FM FR FG
              go_wp2
              clear lenA lenB lenC
              go_loop [16] (fun i => ∃ k : Nat, k ≤ j ∧ i = .int .i64 k) (fun i => j - (intOf i).toNat)
              case atStart => exact ⟨0, by omega, rfl⟩
              case round =>
                obtain ⟨k, hk, rfl⟩ := hrel
                by_cases hlt3 : k < j
                · have hkl : k < l1.length := by rw [I1.out.len]; exact hlt3
                  obtain ⟨x, rfl, hxb, cx⟩ := RB.out.at_ (sv_at l1 k hkl)
                  have hz := I1.out.max _ (List.getElem_mem hkl)
                  have hmem : l1[k] ∈ l1 := List.getElem_mem hkl
                  obtain ⟨hh, o, ho⟩ := held_at HG.out HK.out hmem
                  obtain ⟨s1, hs1⟩ : ∃ s, s = l1[k] := ⟨_, rfl⟩
                  rw [← hs1] at cx hz ho hh
                  have lk1 := look_ok_at GM.out hz hh ho
                  have lk2 := look_ok_at G2.out hz hh ho
                  have x0 : (0 : Int) ≤ (k : Int) := by omega
                  have x1 : (k : Int) < (j : Int) := by omega
                  clear hs1 hz ho hh hmem hxb
                  rcases o with _ | v
                  all_goals
                    unfold shp at lk1 lk2
                    go_wp2
                    go_round
                    case rel => exact ⟨k + 1, by omega, by go_num⟩
                    case measure => simp [intOf]; omega
                · obtain rfl : k = j := by omega
                  go_wp2
                  go_ret
                  exact ⟨rfl, GB.out⟩
    · have GB := Lib.hid (below_join BB3.out BB3.out.size b4)
      clear b4 K8
      go_wp2_with fail
      go_ret
      exact ⟨rfl, GB.out⟩
  · have hlen : ∀ W : World, (Builtin.len_ #[28] 3 #[.map none]).run Tryf.prog W = .ok (.int .i64 0) W := fun W => Maps.len_nil Tryf.underlying28 3
    have hnl := fun (W : World) => run_eql_map_nil (P := Tryf.prog) W 28 9 20 none Tryf.underlying28
    clear K8
    go_wp2_with fail
    refine (nil8 _ _ _ w3).mono ?_
    rintro e w' ⟨rfl, rfl⟩
    go_wp2_with fail
    refine (nil9 w3).mono ?_
    rintro e w5 ⟨rfl, b5⟩
    have GB := Lib.hid (below_join BB3.out BB3.out.size b5)
    clear b5
    go_wp2_with fail
    refine (nil9 w5).mono ?_
    rintro e w6 ⟨rfl, b6⟩
    have GB6 := Lib.hid (below_join GB.out GB.out.size b6)
    clear b6 GB
    go_wp2
    go_ret
    exact ⟨rfl, GB6.out⟩
theorem walk (a0 : Bool) (a1 : Option Addr) (len1 cap1 : Nat) (z1 : List ByteArray) (a2 : Option Addr) (len2 cap2 : Nat) (z2 : List ByteArray) (a3 : Option Addr) (len3 cap3 : Nat) (z3 : List Bool) (w : World) (w1 : IsStrs w a1 len1 cap1 z1) (w2 : IsStrs w a2 len2 cap2 z2) (w3 : IsBools w a3 len3 cap3 z3) :
    Calls Tryf.prog 3 #[.bool a0, .slice a1 len1 cap1, .slice a2 len2 cap2, .slice a3 len3 cap3] w fun e w' => e = .returned (.bool true) ∧ Below w.heap.size w w' := by
  obtain ⟨l1, i1⟩ := in_of w1
  obtain ⟨l2, i2⟩ := in_of w2
  obtain ⟨⟨l3, h3, r3⟩, e3, m3⟩ := rd_of_bools w3
  exact main a0 a1 len1 cap1 l1 a2 len2 cap2 l2 a3 len3 cap3 l3 w i1 i2 h3 r3 e3 m3
end Go.Proofs.YtpaefmnjhfldjaaFmt.fnCloneMangleCacheFreshAndIdempotent
