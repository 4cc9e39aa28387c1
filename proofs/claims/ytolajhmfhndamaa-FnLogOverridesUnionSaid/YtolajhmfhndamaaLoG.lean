/- A map of one key, laid by a literal; what validateLogOverrides makes of it; lookups and lengths. Conditions: lengths, levels of at most 5. -/
import Derived.Test.YtolajhmfhndamaaLoF
namespace Go.Proofs.Ytolajhmfhndamaa.LoG
open Go.RowKit Go.Maps Go.ChangeMaps Go.MapKept Go.Proofs.Ytolajhmfhndamaa.Base Go.Proofs.Ytolajhmfhndamaa.Sls Go.Proofs.Ytolajhmfhndamaa.Mps Go.Proofs.Ytolajhmfhndamaa.LoA Go.Proofs.Ytolajhmfhndamaa.LoF
set_option linter.unusedVariables false
/-- If it says yes, what the arguments lead to is short. -/
theorem bytes_any (s0 : ByteArray) (w : World) (hs0 : s0.size ≤ maxLen) :
    Calls Try.prog 8 #[.string s0] w (Bd (s0.size ≤ 1048576) w) := by
  unfold maxLen at hs0
  go_enter Try.func8, Try.ntmps8
  go_wp2
  all_goals first | (go_ret; exact ⟨false, rfl, (fun h => by cases h), rfl⟩) | skip
  go_ret
  exact ⟨true, rfl, (fun _ => by omega), rfl⟩
theorem has_key {es : List (Lit × DataW Value)} (hk : ∀ p ∈ es, WideAt.IsKeyLit p.1) (l : Lit) : Maps.has (.map es) l = true ↔ l ∈ es.map Prod.fst := by
  show es.any (fun p => p.1.sameKey l) = true ↔ _
  rw [List.any_eq_true, List.mem_map]
  constructor
  · rintro ⟨p, hp, h⟩
    exact ⟨p, hp, WideAt.sameKey_eq h⟩
  · rintro ⟨p, hp, rfl⟩
    exact ⟨p, hp, WideAt.sameKey_self (hk p hp)⟩
theorem size_same {D D' : DataW Value} (c : Canon D) (c' : Canon D') (h : ∀ l, Maps.has D l = true ↔ Maps.has D' l = true) : Maps.size D = Maps.size D' := by
  obtain ⟨es, rfl, hp, hk⟩ := c
  obtain ⟨es', rfl, hp', hk'⟩ := c'
  have n1 : (es.map Prod.fst).Nodup := List.pairwise_map.2 (apart_of_rising hp)
  have n2 : (es'.map Prod.fst).Nodup := List.pairwise_map.2 (apart_of_rising hp')
  have := ((List.perm_ext_iff_of_nodup n1 n2).2 (fun l => by rw [← has_key hk, ← has_key hk']; exact h l)).length_eq
  simpa [Maps.size] using this
theorem size_none {D : DataW Value} (c : Canon D) (h : ∀ l, Maps.has D l = true → False) : Maps.size D = 0 := by
  have := size_same c canon_empty (fun l => ⟨fun e => absurd e (fun e => h l e), fun e => by cases e⟩)
  rw [this]; rfl
theorem wpList_insert_own {H : Type} {P : Program} (w : World) {ops : Array Oper} {rest : List Oper} {o : Oper} {a : Act} {Q : Exit → Act → World → Prop}
    (hg : o.guard = none) (m x v : Operand) (t : TypeId) (hop : o.op = Op.insert t m x v)
    (k e : TypeId) (K : Keyed P k) (ht : P.underlying t = some (.map k e)) (R : Value → Option (DataW H × List MemPlace)) (b n : Nat) (D : DataW H)
    (hm : a.eval m = .map (some b)) (hown : w.ownsMap P k R b n D) (hn : n < maxLen) (key val : Value) (kl : Lit) (hx : a.eval x = key) (hv : a.eval v = val) (hkey : keyOf P k key = some kl)
    (d : DataW H) (ps : List MemPlace) (hval : R val = some (d, ps))
    (hK : ∀ w', w'.ownsMap P k R b (n + 1) (D.put kl d) → w.grownBy w' (some b) → wpList P ops Q rest (a.put o.dst undef) w') :
    wpList P ops Q (o :: rest) a w := by
  refine wpList_plain hg fun K' hK' => ?_
  obtain ⟨w', hrun, r1, r2⟩ := hown.update K ht hn hkey hval
  unfold Oper.wp
  simp [execOp, hop, hm, hx, hv, hrun, Result.andThen]
  exact hK' _ _ (hK w' r1 r2)
def D1 (key : ByteArray) (v : Int) : DataW Value := (DataW.map []).put (kl key) (.held (.int .u8 v))
theorem isMap0 : IsMap (.map [] : DataW Value) := ⟨[], rfl⟩
theorem D1_has (key s : ByteArray) (v : Int) (h : Maps.has (D1 key v) (kl s) = true) : s = key := by
  rcases Classical.em (kl s = kl key) with e | e
  · exact kl_inj e
  · unfold D1 at h
    rw [has_put_other e] at h
    cases h
theorem D1_at (key : ByteArray) (v : Int) (z : DataW Value) : (D1 key v).atKey (kl key) z = .held (.int .u8 v) := atKey_put_same isMap0 (kl_key key) _ z
theorem D1_self (key : ByteArray) (v : Int) : Maps.has (D1 key v) (kl key) = true := has_put_same isMap0 (kl_key key) _
theorem D1_good (key : ByteArray) (v : Int) (h0 : 0 ≤ v) (h1 : v ≤ 5) : LoF.Good (D1 key v) := by
  intro k hk
  rcases Classical.em (k = kl key) with e | e
  · subst e
    exact ⟨v, h0, h1, D1_at key v⟩
  · unfold D1 at hk
    rw [has_put_other e] at hk
    cases hk
theorem D1_size (key : ByteArray) (v : Int) : Maps.size (D1 key v) ≤ 4096 := by
  unfold D1
  rw [size_put ⟨[], rfl, List.Pairwise.nil⟩]
  split
  · show 0 ≤ _; omega
  · show 0 + 1 ≤ _; omega
/-- What comes of one key with a level. -/
def Key (key : ByteArray) (v : Int) (D : DataW Value) : Prop := Canon D ∧ (∀ l, Maps.has D l = true ↔ ∃ x ∈ ids key, l = kI x) ∧ ∀ l, Maps.has D l = true → ∀ z, D.atKey l z = lv (lvl v)
theorem key_of {key : ByteArray} {v : Int} {D : DataW Value} (c : Canon D) (h : Came (D1 key v) D (fun _ => false)) : Key key v D := by
  refine ⟨c, fun l => ⟨fun hl => ?_, fun ⟨x, hx, e⟩ => ?_⟩, fun l hl z => ?_⟩
  · obtain ⟨s, x, u, a1, a2, a3, a4, a5, a6⟩ := h.1 l hl
    obtain rfl := D1_has key s v a1
    exact ⟨x, a3, a4⟩
  · rw [e]; exact h.2 key (D1_self key v) rfl x hx
  · obtain ⟨s, x, u, a1, a2, a3, a4, a5, a6⟩ := h.1 l hl
    obtain rfl := D1_has key s v a1
    have e := (D1_at s v .nil).symm.trans (a5 .nil)
    injection e with e
    injection e with _ e
    rw [e]; exact a6 z
def One (key : ByteArray) (v : Int) (w : World) (e : Ending) (w' : World) : Prop :=
  ∃ (D : DataW Value) (m : Nat), e = .returned (.map (some w.heap.size)) ∧ OM w' w.heap.size m D ∧ Key key v D ∧ Below w.heap.size w w'
theorem one7 (key : ByteArray) (v : Int) (b n : Nat) (w : World) (hown : MD w b n (D1 key v)) (h0 : 0 ≤ v) (h1 : v ≤ 5) : Calls Try.prog 7 #[.map (some b)] w (One key v w) := by
  refine (val7 b n (D1 key v) w hown (D1_good key v h0 h1) (D1_size key v)).mono ?_
  rintro e w' ⟨D, m, he, ho, _, hc, hb⟩
  exact ⟨D, m, he, ho, key_of (ho.canon law5) hc, hb⟩
theorem none7 (b n : Nat) (w : World) (hown : MD w b n (.map [])) : Calls Try.prog 7 #[.map (some b)] w fun e w' => ∃ (D : DataW Value) (m : Nat), e = .returned (.map (some w.heap.size)) ∧ OM w' w.heap.size m D ∧ Maps.size D = 0 ∧ Below w.heap.size w w' := by
  refine (val7 b n (.map []) w hown (fun k hk => (by cases hk)) (by show 0 ≤ _; omega)).mono ?_
  rintro e w' ⟨D, m, he, ho, _, hc, hb⟩
  refine ⟨D, m, he, ho, size_none (ho.canon law5) (fun l hl => ?_), hb⟩
  obtain ⟨s, x, u, a1, _⟩ := hc.1 l hl
  cases a1
theorem zero32 (w : World) : (zeroValue 32).run Try.prog w = .ok (.int .i8 0) w := by kernel_rfl
/-- 'v, ok := m[id]'. -/
theorem look_in {w : World} {b n : Nat} {D : DataW Value} {key : ByteArray} {v x : Int} (h : OM w b n D) (hk : Key key v D) (h0 : 0 ≤ x) (h1 : x ≤ 255) (hx : x ∈ ids key) :
    (Instr.lookup 28 (.map (some b)) (.int .u8 x) true).run Try.prog w = .ok (.tuple #[.int .i8 (lvl v), .bool true]) w := by
  obtain ⟨u, ps, hrun, hu⟩ := h.look_ok law5 Try.underlying28 (zero32 w) (zd := .held (.int .i8 0)) (zp := []) rfl (kI_mk x h0 h1)
  have hh := (hk.2.1 (kI x)).2 ⟨x, hx, rfl⟩
  rw [hk.2.2 _ hh] at hu
  unfold self at hu
  injection hu with hu
  injection hu with hu _
  injection hu with hu
  rw [hrun, hh, hu]
theorem look_out {w : World} {b n : Nat} {D : DataW Value} {key : ByteArray} {v x : Int} (h : OM w b n D) (hk : Key key v D) (h0 : 0 ≤ x) (h1 : x ≤ 255) (hx : ¬ x ∈ ids key) :
    ∃ u, (Instr.lookup 28 (.map (some b)) (.int .u8 x) true).run Try.prog w = .ok (.tuple #[u, .bool false]) w := by
  obtain ⟨u, ps, hrun, hu⟩ := h.look_ok law5 Try.underlying28 (zero32 w) (zd := .held (.int .i8 0)) (zp := []) rfl (kI_mk x h0 h1)
  have hh : Maps.has D (kI x) = false := by
    rw [← Bool.not_eq_true, hk.2.1]
    rintro ⟨y, hy, e⟩
    exact hx (by rw [kI_inj e]; exact hy)
  rw [hh] at hrun
  exact ⟨u, hrun⟩
theorem same_size {key : ByteArray} {v v' : Int} {D D' : DataW Value} (h : Key key v D) (h' : Key key v' D') : Maps.size D = Maps.size D' := size_same h.1 h'.1 (fun l => (h.2.1 l).trans (h'.2.1 l).symm)
end Go.Proofs.Ytolajhmfhndamaa.LoG
