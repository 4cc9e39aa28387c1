/- The map that two lists lay; zzBytes and zzBytesOf of the union's law; lookups. Conditions: lengths, levels of at most 5. -/
import Derived.Test.YtolajhmfhndamaaLoG
namespace Go.Proofs.Ytolajhmfhndamaa.LoH
open Go.RowKit Go.Maps Go.ChangeMaps Go.MapKept Go.Proofs.Ytolajhmfhndamaa.Base Go.Proofs.Ytolajhmfhndamaa.Sls Go.Proofs.Ytolajhmfhndamaa.Mps Go.Proofs.Ytolajhmfhndamaa.LoA Go.Proofs.Ytolajhmfhndamaa.LoF Go.Proofs.Ytolajhmfhndamaa.LoG
set_option linter.unusedVariables false
/-- If it says yes, what the arguments lead to is short. -/
theorem bytesu (A0 : Option Addr) (n0 c0 : Nat) (l0 : List ByteArray) (A1 : Option Addr) (n1 c1 : Nat) (w : World) (hl0 : l0.length = n0) (hn0 : n0 ≤ maxLen) (hr0 : Rd w w.heap.size A0 (sv l0)) (hs0 : ∀ s ∈ l0, s.size ≤ maxLen) (hn1 : n1 ≤ maxLen) :
    Calls Try.prog 5 #[.slice A0 n0 c0, .slice A1 n1 c1] w (Bd ((n0 + tot l0) + n1 ≤ 1048576) w) := by
  unfold maxLen at hn0
  have HL0 := Lib.hid hl0; have HR0 := Lib.hid hr0; have HS0 := Lib.hid hs0
  clear hl0 hr0 hs0
  unfold maxLen at hn1
  go_enter Try.func5, Try.ntmps5
  go_wp2
  all_goals try (go_ret; exact ⟨false, rfl, (fun h => by cases h), rfl⟩)
  go_loop [5, 6] (fun z i => ∃ k m : Nat, k ≤ n0 ∧ m ≤ 1048576 ∧ i = .int .i64 k ∧ z = .int .i64 m ∧ Hid (m = n0 + tot (l0.take k))) (fun _ i => n0 - (intOf i).toNat)
  case atStart => exact ⟨0, n0, by omega, by omega, rfl, by go_num, Lib.hid rfl⟩
  case round =>
    obtain ⟨k0, m0, hk0, hm0, rfl, rfl, E0⟩ := hrel
    by_cases hlt0 : k0 < n0
    · have hkl : k0 < l0.length := by rw [HL0.out]; exact hlt0
      obtain ⟨x, rfl, hxb, cx⟩ := HR0.out.at_ (sv_at l0 k0 hkl)
      have hz := HS0.out _ (List.getElem_mem hkl)
      unfold maxLen at hz
      have TS := Lib.hid (tot_step l0 k0 hkl)
      obtain ⟨s, hs⟩ : ∃ s, s = l0[k0] := ⟨_, rfl⟩
      rw [← hs] at cx hz
      have HS := Lib.hid hs
      clear hs
      go_wp2
      all_goals try (go_ret; exact ⟨false, rfl, (fun h => by cases h), rfl⟩)
      go_round
      case rel => exact ⟨k0 + 1, m0 + s.size, by omega, by omega, by go_num, by go_num, Lib.hid (by have := E0.out; have := TS.out; rw [← HS.out] at this; omega)⟩
      case measure => simp [intOf]; omega
    · obtain rfl : k0 = n0 := by omega
      go_wp2
      all_goals first | (go_ret; exact ⟨false, rfl, (fun h => by cases h), rfl⟩) | skip
      go_ret
      exact ⟨true, rfl, (fun _ => by have := E0.out; rw [List.take_of_length_le (by rw [HL0.out]; omega)] at this; omega), rfl⟩
def Dm (ks : Nat → ByteArray) (vs : Nat → Int) : Nat → DataW Value
  | 0 => .map []
  | k + 1 => (Dm ks vs k).put (kl (ks k)) (.held (.int .u8 (vs k)))
section
variable {ks : Nat → ByteArray} {vs : Nat → Int}
theorem Dm_isMap : ∀ k, IsMap (Dm ks vs k)
  | 0 => isMap0
  | k + 1 => put_isMap (Dm_isMap k) _ _
theorem Dm_good : ∀ k, (∀ i, i < k → 0 ≤ vs i ∧ vs i ≤ 5) → LoF.Good (Dm ks vs k)
  | 0, _ => fun l hl => (by cases hl)
  | k + 1, h => fun l hl => by
    rcases Classical.em (l = kl (ks k)) with e | e
    · subst e
      exact ⟨vs k, (h k (by omega)).1, (h k (by omega)).2, atKey_put_same (Dm_isMap k) (kl_key _) _⟩
    · unfold Dm at hl
      rw [has_put_other e] at hl
      obtain ⟨v, h0, h1, h2⟩ := Dm_good k (fun i hi => h i (by omega)) l hl
      exact ⟨v, h0, h1, fun z => (atKey_put_other e _ z).trans (h2 z)⟩
theorem Dm_has : ∀ k (s : ByteArray), Maps.has (Dm ks vs k) (kl s) = true ↔ ∃ i, i < k ∧ ks i = s
  | 0, s => ⟨fun h => (by cases h), fun ⟨i, hi, _⟩ => absurd hi (Nat.not_lt_zero _)⟩
  | k + 1, s => by
    unfold Dm
    rcases Classical.em (kl s = kl (ks k)) with e | e
    · rw [e, has_put_same (Dm_isMap k) (kl_key _)]
      exact ⟨fun _ => ⟨k, by omega, (kl_inj e).symm⟩, fun _ => rfl⟩
    · rw [has_put_other e, Dm_has k s]
      constructor
      · rintro ⟨i, hi, h⟩; exact ⟨i, by omega, h⟩
      · rintro ⟨i, hi, h⟩
        rcases Nat.lt_or_ge i k with g | g
        · exact ⟨i, g, h⟩
        · obtain rfl : i = k := by omega
          exact absurd (by rw [h]) e
/-- Each key's level in the whole map. -/
theorem levels (n : Nat) (h : ∀ i, i < n → 0 ≤ vs i ∧ vs i ≤ 5) : ∃ V : Nat → Int, ∀ j, j < n → 0 ≤ V j ∧ V j ≤ 5 ∧ ∀ z, (Dm ks vs n).atKey (kl (ks j)) z = .held (.int .u8 (V j)) := by
  have : ∀ j, ∃ v : Int, j < n → 0 ≤ v ∧ v ≤ 5 ∧ ∀ z, (Dm ks vs n).atKey (kl (ks j)) z = .held (.int .u8 v) := by
    intro j
    rcases Nat.lt_or_ge j n with hj | hj
    · obtain ⟨v, h0, h1, h2⟩ := Dm_good n h (kl (ks j)) ((Dm_has n (ks j)).2 ⟨j, hj, rfl⟩)
      exact ⟨v, fun _ => ⟨h0, h1, h2⟩⟩
    · exact ⟨0, fun h => absurd h (by omega)⟩
  exact ⟨fun j => (this j).choose, fun j hj => (this j).choose_spec hj⟩
/-- The union: an id reads iff some key lays it, and then as the level of such a key. -/
theorem union {n : Nat} {V : Nat → Int} {D : DataW Value} (hV : ∀ j, j < n → 0 ≤ V j ∧ V j ≤ 5 ∧ ∀ z, (Dm ks vs n).atKey (kl (ks j)) z = .held (.int .u8 (V j))) (hc : Came (Dm ks vs n) D (fun _ => false)) (x : Int) :
    (Maps.has D (kI x) = true ∧ ∃ j, j < n ∧ x ∈ ids (ks j) ∧ ∀ z, D.atKey (kI x) z = lv (lvl (V j))) ∨ (Maps.has D (kI x) = false ∧ ∀ j, j < n → ¬ x ∈ ids (ks j)) := by
  cases hh : Maps.has D (kI x)
  · refine .inr ⟨rfl, fun j hj hx => ?_⟩
    have := hc.2 (ks j) ((Dm_has n (ks j)).2 ⟨j, hj, rfl⟩) rfl x hx
    rw [hh] at this; cases this
  · obtain ⟨s, y, u, a1, a2, a3, a4, a5, a6⟩ := hc.1 (kI x) hh
    obtain ⟨j, hj, rfl⟩ := (Dm_has n s).1 a1
    have e := ((hV j hj).2.2 .nil).symm.trans (a5 .nil)
    injection e with e
    injection e with _ e
    refine .inl ⟨rfl, j, hj, ?_, fun z => ?_⟩
    · rw [kI_inj a4]; exact a3
    · rw [e]; exact a6 z
end
theorem zero27 (w : World) : (zeroValue 27).run Try.prog w = .ok (.int .u8 0) w := by kernel_rfl
theorem look26 {w : World} {b n : Nat} {D : DataW Value} {s : ByteArray} {v : Int} (h : MD w b n D) (hs : s.size ≤ maxLen) (hv : ∀ z, D.atKey (kl s) z = .held (.int .u8 v)) : (Instr.lookup 26 (.map (some b)) (.string s) false).run Try.prog w = .ok (.int .u8 v) w := by
  obtain ⟨u, ps, hrun, hu⟩ := h.lookup law9 Try.underlying26 (zero27 w) (zd := .held (.int .u8 0)) (zp := []) rfl (WideMaps.keyOf_string_mk Try.underlying9 hs)
  have e : kl s = Lit.string s.data.toList := rfl
  rw [← e, hv] at hu
  unfold self at hu
  injection hu with hu
  injection hu with hu _
  injection hu with hu
  rw [hrun, hu]
theorem look_at {w : World} {b n : Nat} {D : DataW Value} {x v : Int} (h : OM w b n D) (h0 : 0 ≤ x) (h1 : x ≤ 255) (hh : Maps.has D (kI x) = true) (hv : ∀ z, D.atKey (kI x) z = lv v) :
    (Instr.lookup 28 (.map (some b)) (.int .u8 x) true).run Try.prog w = .ok (.tuple #[.int .i8 v, .bool true]) w := by
  obtain ⟨u, ps, hrun, hu⟩ := h.look_ok law5 Try.underlying28 (zero32 w) (zd := .held (.int .i8 0)) (zp := []) rfl (kI_mk x h0 h1)
  rw [hv] at hu
  unfold self lv at hu
  injection hu with hu
  injection hu with hu _
  injection hu with hu
  rw [hrun, hh, hu]
theorem look_no {w : World} {b n : Nat} {D : DataW Value} {x : Int} (h : OM w b n D) (h0 : 0 ≤ x) (h1 : x ≤ 255) (hh : Maps.has D (kI x) = false) :
    ∃ u, (Instr.lookup 28 (.map (some b)) (.int .u8 x) true).run Try.prog w = .ok (.tuple #[u, .bool false]) w := by
  obtain ⟨u, ps, hrun, hu⟩ := h.look_ok law5 Try.underlying28 (zero32 w) (zd := .held (.int .i8 0)) (zp := []) rfl (kI_mk x h0 h1)
  rw [hh] at hrun
  exact ⟨u, hrun⟩
theorem om_drew {w : World} {b n : Nat} {D : DataW Value} (h : OM w b n D) : OM w.drew b n D := by
  obtain ⟨es, clock, h1, h2⟩ := h
  exact ⟨es, clock, h1, h2⟩
theorem om_block {w w' : World} {b n : Nat} {D : DataW Value} (h : OM w b n D) (hb : w'.heap[b]? = w.heap[b]?) : OM w' b n D := by
  obtain ⟨es, clock, h1, h2⟩ := h
  exact ⟨es, clock, hb.trans h1, h2⟩
theorem md_drew {w : World} {b n : Nat} {D : DataW Value} (h : MD w b n D) : MD w.drew b n D := by
  obtain ⟨es, clock, h1, h2⟩ := h
  exact ⟨es, clock, h1, h2⟩
theorem md_block {w w' : World} {b n : Nat} {D : DataW Value} (h : MD w b n D) (hb : w'.heap[b]? = w.heap[b]?) : MD w' b n D := by
  obtain ⟨es, clock, h1, h2⟩ := h
  exact ⟨es, clock, hb.trans h1, h2⟩
theorem bytes6 (A : Option Addr) (n c : Nat) (l : List ByteArray) (w : World) (hl : l.length = n) (hn : n ≤ 4096) (r : Rd w w.heap.size A (sv l)) (m : ∀ s ∈ l, s.size ≤ 1048576) :
    Calls Try.prog 6 #[.slice A n c] w fun e w' => ∃ v : Int, e = .returned (.int .i64 v) ∧ w = w' := by
  have HL := Lib.hid hl; have HR := Lib.hid r; have HM := Lib.hid m
  clear hl r m
  go_enter Try.func6, Try.ntmps6
  go_wp2
  go_loop [3, 4] (fun t i => ∃ (k : Nat) (v : Int), k ≤ n ∧ t = .int .i64 v ∧ i = .int .i64 k) (fun _ i => n - (intOf i).toNat)
  case atStart => exact ⟨0, _, by omega, rfl, rfl⟩
  case round =>
    obtain ⟨k, v, hk, rfl, rfl⟩ := hrel
    by_cases hlt : k < n
    · obtain ⟨x, rfl, hxb, cx⟩ := HR.out.at_ (sv_at l k (by rw [HL.out]; exact hlt))
      have z1 := HM.out _ (List.getElem_mem (by rw [HL.out]; exact hlt : k < l.length))
      obtain ⟨s, hs⟩ : ∃ s, s = l[k]'(by rw [HL.out]; exact hlt) := ⟨_, rfl⟩
      rw [← hs] at cx z1
      clear hs
      go_wp2
      go_round
      case rel => exact ⟨k + 1, _, by omega, rfl, by go_num⟩
      case measure => simp [intOf]; omega
    · obtain rfl : k = n := by omega
      go_wp2
      go_ret
      exact ⟨⟨v, rfl⟩, rfl⟩
end Go.Proofs.Ytolajhmfhndamaa.LoH
