/- validateLogOverrides by its contract: each id that some key lays reads as the level of such a key. Condition: at most 4096 keys, levels of at most 5. -/
import Derived.Test.YtolajhmfhndamaaLoE
namespace Go.Proofs.Ytolajhmfhndamaa.LoF
open Go.RowKit Go.Maps Go.ChangeMaps Go.MapKept Go.Proofs.Ytolajhmfhndamaa.Base Go.Proofs.Ytolajhmfhndamaa.Mps Go.Proofs.Ytolajhmfhndamaa.LoA Go.Proofs.Ytolajhmfhndamaa.LoE
set_option linter.unusedVariables false
/-! ### PLAIN -/
noncomputable def ids (s : ByteArray) : List Int := (sto_any s).choose
theorem ids_in (s : ByteArray) : ∀ x ∈ ids s, 0 ≤ x ∧ x ≤ 255 := (sto_any s).choose_spec.1
theorem ids_sto (s : ByteArray) : Sto s (ids s) := (sto_any s).choose_spec.2
def lvl (v : Int) : Int := if v = 0 then 6 else v
theorem put_isMap {D : DataW Value} (h : IsMap D) (k : Lit) (d : DataW Value) : IsMap (D.put k d) := by
  obtain ⟨es, rfl⟩ := h
  exact ⟨_, rfl⟩
theorem fill_isMap (S : List Int) (v : Int) : ∀ D : DataW Value, IsMap D → IsMap (fill S v D) := by
  induction S with
  | nil => exact fun D h => h
  | cons x S ih => exact fun D h => ih _ (put_isMap h _ _)
theorem fill_has (S : List Int) (v : Int) : ∀ (D : DataW Value), IsMap D → ∀ l, Maps.has (fill S v D) l = true ↔ (Maps.has D l = true ∨ ∃ x ∈ S, l = kI x) := by
  induction S with
  | nil => intro D h l; simp [fill]
  | cons x S ih =>
    intro D h l
    have := ih (D.put (kI x) (lv v)) (put_isMap h _ _) l
    show Maps.has (fill S v (D.put (kI x) (lv v))) l = true ↔ _
    rw [this]
    by_cases e : l = kI x
    · subst e
      rw [has_put_same h (kI_key x)]
      simp
    · rw [has_put_other e]
      simp [e]
theorem fill_out (S : List Int) (v : Int) (l : Lit) : ∀ (D : DataW Value), (∀ x ∈ S, l ≠ kI x) → ∀ z, (fill S v D).atKey l z = D.atKey l z := by
  induction S with
  | nil => intro D h z; rfl
  | cons x S ih =>
    intro D h z
    have := ih (D.put (kI x) (lv v)) (fun y hy => h y (List.mem_cons_of_mem _ hy)) z
    show (fill S v (D.put (kI x) (lv v))).atKey l z = _
    rw [this, atKey_put_other (h x (List.mem_cons_self ..))]
theorem fill_in (S : List Int) (v : Int) (x : Int) : ∀ (D : DataW Value), IsMap D → x ∈ S → ∀ z, (fill S v D).atKey (kI x) z = lv v := by
  induction S with
  | nil => intro D h hx; cases hx
  | cons y S ih =>
    intro D h hx z
    show (fill S v (D.put (kI y) (lv v))).atKey (kI x) z = lv v
    by_cases e : x ∈ S
    · exact ih _ (put_isMap h _ _) e z
    · have hxy : x = y := by rcases List.mem_cons.1 hx with h | h; exact h; exact absurd h e
      subst hxy
      rw [fill_out S v (kI x) _ (fun w hw he => e (by rw [kI_inj he]; exact hw))]
      exact atKey_put_same h (kI_key x) _ z
/-- Every entry is a level of at most 5. -/
def Good (D : DataW Value) : Prop := ∀ k, Maps.has D k = true → ∃ v : Int, 0 ≤ v ∧ v ≤ 5 ∧ ∀ z, D.atKey k z = .held (.int .u8 v)
/-- What the keys that have come have laid. -/
def Came (D Dout : DataW Value) (left : Lit → Bool) : Prop :=
  (∀ l, Maps.has Dout l = true → ∃ (s : ByteArray) (x v : Int), Maps.has D (kl s) = true ∧ left (kl s) = false ∧ x ∈ ids s ∧ l = kI x ∧ (∀ z, D.atKey (kl s) z = .held (.int .u8 v)) ∧ ∀ z, Dout.atKey l z = lv (lvl v)) ∧
  (∀ s, Maps.has D (kl s) = true → left (kl s) = false → ∀ x ∈ ids s, Maps.has Dout (kI x) = true)
theorem came_start (D : DataW Value) : Came D (.map []) (Maps.has D) := ⟨fun l h => (by cases h), fun s h1 h2 => (by rw [h1] at h2; cases h2)⟩
theorem came_step {D Dout : DataW Value} {left : Lit → Bool} (h : Came D Dout left) (hm : IsMap Dout) (s : ByteArray) (v : Int) (hs : Maps.has D (kl s) = true) (hat : ∀ z, D.atKey (kl s) z = .held (.int .u8 v)) :
    Came D (fill (ids s) (lvl v) Dout) (fun z => left z && !z.sameKey (kl s)) := by
  have self' : (kl s).sameKey (kl s) = true := WideAt.sameKey_self (kl_key s)
  refine ⟨fun l hl => ?_, fun t ht hlt x hx => ?_⟩
  · by_cases e : ∃ x ∈ ids s, l = kI x
    · obtain ⟨x, hx, rfl⟩ := e
      exact ⟨s, x, v, hs, by show (left (kl s) && !(kl s).sameKey (kl s)) = false; rw [self']; simp, hx, rfl, hat, fill_in _ _ _ _ hm hx⟩
    · rcases (fill_has _ _ _ hm l).1 hl with h1 | h1
      · obtain ⟨t, x, u, a1, a2, a3, a4, a5, a6⟩ := h.1 l h1
        refine ⟨t, x, u, a1, by show (left (kl t) && _) = false; rw [a2]; rfl, a3, a4, a5, fun z => ?_⟩
        rw [fill_out _ _ _ _ (fun y hy he => e ⟨y, hy, he⟩)]
        exact a6 z
      · exact absurd h1 e
  · rw [fill_has _ _ _ hm]
    by_cases e : t = s
    · subst e
      exact .inr ⟨x, hx, rfl⟩
    · refine .inl (h.2 t ht ?_ x hx)
      have hlt' : (left (kl t) && !(kl t).sameKey (kl s)) = false := hlt
      have hne : (kl t).sameKey (kl s) = false := by
        rw [← Bool.not_eq_true]
        intro h3
        exact e (kl_inj (WideAt.sameKey_eq h3))
      rw [hne] at hlt'
      simpa using hlt'
/-! ### WALKS -/
theorem level12 (v : Int) (w : World) (h0 : 0 ≤ v) (h1 : v ≤ 5) : Calls Try.prog 12 #[.int .u8 v] w fun e w' => e = .returned (.int .i8 (lvl v)) ∧ w = w' := by
  rcases (show v = 0 ∨ v = 1 ∨ v = 2 ∨ v = 3 ∨ v = 4 ∨ v = 5 by omega) with rfl | rfl | rfl | rfl | rfl | rfl
  all_goals
    go_enter Try.func12, Try.ntmps12
    go_wp2
    go_ret
    exact ⟨rfl, rfl⟩
theorem level9 (v : Int) (w : World) (h0 : 0 ≤ v) (h1 : v ≤ 5) : Calls Try.prog 9 #[.int .u8 v] w fun e w' => e = .returned (.int .i8 (lvl v)) ∧ w = w' := by
  rcases (show v = 0 ∨ v = 1 ∨ v = 2 ∨ v = 3 ∨ v = 4 ∨ v = 5 by omega) with rfl | rfl | rfl | rfl | rfl | rfl
  all_goals
    go_enter Try.func9, Try.ntmps9
    go_wp2
    go_ret
    exact ⟨rfl, rfl⟩
abbrev MD (w : World) (b n : Nat) (D : DataW Value) : Prop := w.ownsMap Try.prog 9 self b n D
theorem key_inv {key : Value} {l : Lit} (h : keyOf Try.prog 9 key = some l) : ∃ x : ByteArray, key = .string x ∧ l = kl x ∧ x.size ≤ maxLen := by
  rw [keyOf_string Try.underlying9] at h
  cases key <;> simp [mapKey, Try.underlying9] at h
  rename_i x
  exact ⟨x, rfl, h.2.symm, h.1⟩
def Cl (w : World) (b n : Nat) (D : DataW Value) (wr : World) : Prop :=
  ∃ (left : Lit → Bool) (cnt : Nat) (Dout : DataW Value) (m : Nat), wr.ranges Try.prog 9 self b (w.heap.size + 1) n D left cnt ∧ cnt ≤ Maps.size D ∧ OM wr w.heap.size m Dout ∧ m ≤ 16 * (Maps.size D - cnt) ∧ Came D Dout left ∧ (∀ k, left k = true → Maps.has D k = true) ∧ Below w.heap.size w wr
def Val (D : DataW Value) (w : World) (e : Ending) (w' : World) : Prop :=
  ∃ (Dout : DataW Value) (m : Nat), e = .returned (.map (some w.heap.size)) ∧ OM w' w.heap.size m Dout ∧ m ≤ 65536 ∧ Came D Dout (fun _ => false) ∧ Below w.heap.size w w'
set_option maxRecDepth 100000 in
set_option maxHeartbeats 4000000 in
theorem val10 (b n : Nat) (D : DataW Value) (w : World) (hown : MD w b n D) (hG : Good D) (hmax : Maps.size D ≤ 4096) :
    Calls Try.prog 10 #[.map (some b)] w (Val D w) := by
  have hbl := hown.lt
  have hmm := @run_makeMap Try.prog
  have HO := Lib.hid hown; have HG := Lib.hid hG
  clear hown hG
  go_enter Try.func10, Try.ntmps10
  go_wp2_with (at_range; refine wpList_range_own _ rfl _ 26 rfl 9 27 law9 Try.underlying26 self b n D rfl (HO.out.alloc _) ?_; intro w0 hrg0 hg0 hs0)
  go_frame
  have e2 : (w.alloc (.map #[] 0)).heap.size = w.heap.size + 1 := by simp
  have hm0 : OM (w.alloc (.map #[] 0)) w.heap.size 0 (.map []) := World.ownsMap_made w Try.prog 5 self
  have hB0 : Below w.heap.size w w0 := ((Below.refl _ _).alloc (Nat.le_refl _) _).grown hg0 (by simp) (fun j hj => by cases hj)
  have hC0 : Cl w b n D w0 := ⟨_, _, .map [], 0, by rw [← e2]; exact hrg0, Nat.le_refl _, hm0.kept hg0 (by simp), by omega, came_start D, fun k h => h, hB0⟩
  rw [e2]
  have HC0 := Lib.hid hC0
  clear hC0 hB0 hm0 hrg0 hg0 hs0 e2 hmm
  go_loopw [3] (fun _ wr => Cl w b n D wr) (fun _ wr => wr.rangeLeft b (w.heap.size + 1))
  case atStart => exact HC0.out
  case round =>
    obtain ⟨left, cnt, Dout, m, hrg, hcs, hout, hmb, hA, hleft, hnx⟩ := hrel
    have HRG := Lib.hid hrg; have HOUT := Lib.hid hout; have HA := Lib.hid hA; have HLF := Lib.hid hleft; have HNX := Lib.hid hnx
    clear hrg hout hA hleft hnx HC0
    go_wp2_with (at_next; refine wpList_next_ranges (α := ByteArray) (β := Value) _ rfl _ rfl 9 law9 self Value.string id (fun key kl' h => by obtain ⟨x, e, _⟩ := key_inv h; exact ⟨x, e⟩) (fun v y h => ⟨v, rfl⟩) b (w.heap.size + 1) n D left cnt rfl HRG.out ?_ ?_)
    · intro hc0 hl0
      have HL0 := Lib.hid hl0
      clear hc0 hl0
      go_wp2
      go_ret
      refine ⟨Dout, m, rfl, HOUT.out, by omega, ?_, HNX.out⟩
      have e : left = fun _ => false := funext HL0.out
      rw [← e]; exact HA.out
    · intro x c kl' y1 y2 w1 cnt1 hkx hlk hR hat hrg1 hlt hg1 hs1 hen
      obtain ⟨x', ex, ekl, hxs⟩ := key_inv hkx
      injection ex with ex
      subst ex
      subst ekl
      have hh := HLF.out _ hlk
      obtain ⟨v, hv0, hv5, ho⟩ := HG.out _ hh
      unfold self at hR
      injection hR with hR
      injection hR with hy1 hy2
      subst hy1
      subst hy2
      have hc : c = .int .u8 v := by
        have h1 := ho .nil
        rw [hat] at h1
        injection h1
      subst hc
      have HST := Lib.hid (came_step HA.out HOUT.out.isMap x v hh ho)
      have HRG1 := Lib.hid hrg1; have HG1 := Lib.hid hg1; have HLT := Lib.hid hlt
      have HO1 := Lib.hid (HOUT.out.kept hg1 (by simp))
      have C12 := Lib.hid (fun w' => level12 v w' hv0 hv5)
      have C11 := Lib.hid (ids_sto x w1 w.heap.size m Dout (lvl v) HO1.out (by omega))
      clear hat hrg1 hg1 hkx hlt hlk ho hh hs1
      go_wp2_with (first | (go_at_call 12; refine (C12.out _).mono ?_; rintro e w7 ⟨rfl, rfl⟩) | (go_at_call 11; refine C11.out.mono ?_; rintro e w2 ⟨rfl, ho2, hg2⟩; have HO2 := Lib.hid ho2; have HG2 := Lib.hid hg2; clear ho2 hg2) | fail)
      have fin : Hid (Cl w b n D w2) ∧ Hid (w2.rangeLeft b (w.heap.size + 1) < wr.rangeLeft b (w.heap.size + 1)) := by
        have hrg2 := HRG1.out.kept HG2.out (fun e => by have := Option.some.inj e; omega) (fun e => by have := Option.some.inj e; omega)
        refine ⟨Lib.hid ⟨_, cnt1, _, m + 16, hrg2, by have := HLT.out; omega, HO2.out, by have := HLT.out; omega, HST.out, fun k hk => HLF.out k (by revert hk; cases left k <;> simp), (HNX.out.grown HG1.out HNX.out.size (fun j hj => by cases hj; omega)).grown HG2.out (by have := HNX.out.size; have := HG1.out.size; omega) (fun j hj => by cases hj; omega)⟩, Lib.hid ?_⟩
        rw [hrg2.left_eq, HRG.out.left_eq]; exact HLT.out
      obtain ⟨F1, F2⟩ := fin
      go_roundw
      case rel => exact F1.out
      case measure => exact F2.out
theorem val7 (b n : Nat) (D : DataW Value) (w : World) (hown : MD w b n D) (hG : Good D) (hmax : Maps.size D ≤ 4096) :
    Calls Try.prog 7 #[.map (some b)] w (Val D w) := by
  have C := Lib.hid (val10 b n D w hown hG hmax)
  clear hown hG
  go_enter Try.func7, Try.ntmps7
  go_wp2_with (fail)
  refine C.out.mono ?_
  rintro e w2 ⟨Dout, m, rfl, h1, h2, h3, h4⟩
  have H1 := Lib.hid h1; have H3 := Lib.hid h3; have H4 := Lib.hid h4
  clear h1 h3 h4
  go_wp2
  go_ret
  exact ⟨Dout, m, rfl, H1.out, h2, H3.out, H4.out⟩
end Go.Proofs.Ytolajhmfhndamaa.LoF
