/- Maps of loaders; isValidExtension, validateLoader, DefaultExtensionToLoaderMap by contracts; fmt.Sprintf's stop. Conditions: lengths. -/
import Derived.Test.YtabjelcbldjedaaFmtLn
import Derived.Test.YtabjelcbldjedaaFmtMps
import Derived.Maps.RangeWalk
import Derived.Maps.Ext
import Derived.WalkSpells
import Derived.Maps.OwnSet
import Derived.Test.YtabjelcbldjedaaFmtRows
import Derived.Stop.CallBack
import Derived.Stop.IfaceNil
import GoSem.ClaimData
namespace Go.Proofs.YtabjelcbldjedaaFmt.LdA
open Go.RowKit Go.Deep Go.Maps Go.ChangeMaps Go.MapKept Go.Extern.Stop Go.Stop Go.Extern Go.Proofs.YtabjelcbldjedaaFmt.Base Go.Proofs.YtabjelcbldjedaaFmt.Sls Go.Proofs.YtabjelcbldjedaaFmt.Mps Go.Proofs.YtabjelcbldjedaaFmt.Lk Go.Proofs.YtabjelcbldjedaaFmt.Lm Go.Proofs.YtabjelcbldjedaaFmt.Ln
set_option linter.unusedVariables false
@[go_sem] theorem call18 (args : Array Value) (w : World) : (callFunc 18 args).run Tryf.prog w = ((FmtStop.sprintf #[9, 125] #[9] args).run Tryf.prog w).andThen fun v w' => .ok (.value v) w' :=
  run_callFunc_extern Tryf.func18 (by kernel_rfl) (by kernel_rfl) (by kernel_rfl) (by kernel_rfl) args w
@[go_sem] theorem guard (name : String) (w : World) : (FmtStop.guard name).run Tryf.prog w = .ok () w := by kernel_rfl
@[go_sem] theorem fmt0 : FmtStop.printed? ({ data := #[73, 110, 118, 97, 108, 105, 100, 32, 102, 105, 108, 101, 32, 101, 120, 116, 101, 110, 115, 105, 111, 110, 58, 32, 37, 113] } : ByteArray) 1 = some [(0, 113, false)] := by kernel_rfl
@[go_sem] theorem fmt0r (w : World) : (FmtDoors.printed ({ data := #[73, 110, 118, 97, 108, 105, 100, 32, 102, 105, 108, 101, 32, 101, 120, 116, 101, 110, 115, 105, 111, 110, 58, 32, 37, 113] } : ByteArray) 1).run Tryf.prog w = .ok [(0, 113, false)] w := by kernel_rfl
def shape9 : List UInt8 := [12, 6, 0, 0, 0, 0, 0, 0, 0, 115, 116, 114, 105, 110, 103]
@[go_sem] theorem op9_113 (name : String) (x : ByteArray) (w : World) : (FmtStop.operand name false 113 false (.iface 9 (.string x))).run Tryf.prog w = .ok (shape9, FmtStop.pack x.data.toList) w := by kernel_rfl
theorem law9 : Keyed Tryf.prog 9 := string_keyed Tryf.underlying9
abbrev MD (w : World) (b n : Nat) (D : DataW Value) : Prop := w.ownsMap Tryf.prog 9 self b n D
theorem key_mk (x : ByteArray) (h : x.size ≤ maxLen) : keyOf Tryf.prog 9 (.string x) = some (kl x) := WideMaps.keyOf_string_mk Tryf.underlying9 h
theorem key_inv {key : Value} {l : Lit} (h : keyOf Tryf.prog 9 key = some l) : ∃ x : ByteArray, key = .string x ∧ l = kl x ∧ x.size ≤ maxLen := by
  rw [keyOf_string Tryf.underlying9] at h
  cases key <;> simp [mapKey, Tryf.underlying9] at h
  rename_i x
  exact ⟨x, rfl, h.2.symm, h.1⟩
theorem has_key {es : List (Lit × DataW Value)} (hk : ∀ p ∈ es, WideAt.IsKeyLit p.1) (l : Lit) : Maps.has (.map es) l = true ↔ l ∈ es.map Prod.fst := by
  show es.any (fun p => p.1.sameKey l) = true ↔ _
  rw [List.any_eq_true, List.mem_map]
  constructor
  · rintro ⟨p, hp, h⟩
    exact ⟨p, hp, WideAt.sameKey_eq h⟩
  · rintro ⟨p, hp, rfl⟩
    exact ⟨p, hp, WideAt.sameKey_self (hk p hp)⟩
theorem size_same {D D' : DataW Value} (c : Canon D) (c' : Canon D') (h : ∀ l, Maps.has D l = true ↔ Maps.has D' l = true) : Maps.size D = Maps.size D' := by
  obtain ⟨es, rfl, hp, hk⟩ := c
  obtain ⟨es', rfl, hp', hk'⟩ := c'
  have n1 : (es.map Prod.fst).Nodup := List.pairwise_map.2 (apart_of_rising hp)
  have n2 : (es'.map Prod.fst).Nodup := List.pairwise_map.2 (apart_of_rising hp')
  have := ((List.perm_ext_iff_of_nodup n1 n2).2 (fun l => by rw [← has_key hk, ← has_key hk']; exact h l)).length_eq
  simpa [Maps.size] using this
theorem wpList_insert_own {H : Type} {P : Program} (w : World) {ops : Array Oper} {rest : List Oper} {o : Oper} {a : Act} {Q : Exit → Act → World → Prop}
    (hg : o.guard = none) (m x v : Operand) (t : TypeId) (hop : o.op = Op.insert t m x v)
    (k e : TypeId) (K : Keyed P k) (ht : P.underlying t = some (.map k e)) (R : Value → Option (DataW H × List MemPlace)) (b n : Nat) (D : DataW H)
    (hm : a.eval m = .map (some b)) (hown : w.ownsMap P k R b n D) (hn : n < maxLen) (key val : Value) (kl : Lit) (hx : a.eval x = key) (hv : a.eval v = val) (hkey : keyOf P k key = some kl)
    (d : DataW H) (ps : List MemPlace) (hval : R val = some (d, ps))
    (hK : ∀ w', w'.ownsMap P k R b (n + 1) (D.put kl d) → w.grownBy w' (some b) → wpList P ops Q rest (a.put o.dst undef) w') :
    wpList P ops Q (o :: rest) a w := by
  refine wpList_plain hg fun K' hK' => ?_
  obtain ⟨w', hrun, r1, r2⟩ := hown.update K ht hn hkey hval
  unfold Oper.wp
  simp [execOp, hop, hm, hx, hv, hrun, Result.andThen]
  exact hK' _ _ (hK w' r1 r2)
def D1 (key : ByteArray) (v : Int) : DataW Value := (DataW.map []).put (kl key) (.held (.int .u16 v))
theorem isMap0 : IsMap (.map [] : DataW Value) := ⟨[], rfl⟩
theorem D1_has (key : ByteArray) (v : Int) (l : Lit) (h : Maps.has (D1 key v) l = true) : l = kl key := by
  rcases Classical.em (l = kl key) with e | e
  · exact e
  · unfold D1 at h
    rw [has_put_other e] at h
    cases h
theorem D1_at (key : ByteArray) (v : Int) (z : DataW Value) : (D1 key v).atKey (kl key) z = .held (.int .u16 v) := atKey_put_same isMap0 (kl_key key) _ z
theorem D1_self (key : ByteArray) (v : Int) : Maps.has (D1 key v) (kl key) = true := has_put_same isMap0 (kl_key key) _
/-- isValidExtension: some verdict. -/
theorem valid16 (s : ByteArray) (hs : s.size ≤ maxLen) : ∃ b : Bool, ∀ w, Calls Tryf.prog 16 #[.string s] w fun e w' => e = .returned (.bool b) ∧ w = w' := by
  unfold maxLen at hs
  by_cases h2 : 2 ≤ s.size
  · obtain ⟨x, hx⟩ : ∃ x : Bool, (((s[0]'(by omega)).toNat : Int) == 46) = x := ⟨_, rfl⟩
    cases x
    · refine ⟨false, fun w => ?_⟩
      go_enter Tryf.func16, Tryf.ntmps16
      go_wp2
      go_ret
      exact ⟨rfl, rfl⟩
    · refine ⟨(((s[s.size - 1]'(by omega)).toNat : Int) != 46), fun w => ?_⟩
      go_enter Tryf.func16, Tryf.ntmps16
      go_wp2
      go_ret
      exact ⟨rfl, rfl⟩
  · refine ⟨false, fun w => ?_⟩
    go_enter Tryf.func16, Tryf.ntmps16
    go_wp2
    go_ret
    exact ⟨rfl, rfl⟩
/-- validateLoader's table. -/
def lc (a : Int) : Int := if a ≤ 11 then a else if a ≤ 15 then a + 1 else 18
theorem lc_inj (a b : Int) (ha : a ≤ 16) (hb : b ≤ 16) : (lc a == lc b) = (a == b) := by
  rw [Bool.eq_iff_iff, beq_iff_eq, beq_iff_eq]
  constructor
  · intro h
    unfold lc at h
    split at h <;> split at h <;> (try split at h) <;> (try split at h) <;> omega
  · rintro rfl; rfl
set_option maxRecDepth 20000 in
set_option maxHeartbeats 2000000 in
theorem loader19 (a : Int) (h0 : 0 ≤ a) (h1 : a ≤ 16) (w : World) : Calls Tryf.prog 19 #[.int .u16 a] w fun e w' => e = .returned (.int .u8 (lc a)) ∧ w = w' := by
  obtain rfl | rfl | rfl | rfl | rfl | rfl | rfl | rfl | rfl | rfl | rfl | rfl | rfl | rfl | rfl | rfl | rfl : a = 0 ∨ a = 1 ∨ a = 2 ∨ a = 3 ∨ a = 4 ∨ a = 5 ∨ a = 6 ∨ a = 7 ∨ a = 8 ∨ a = 9 ∨ a = 10 ∨ a = 11 ∨ a = 12 ∨ a = 13 ∨ a = 14 ∨ a = 15 ∨ a = 16 := by omega
  all_goals
    go_enter Tryf.func19, Tryf.ntmps19
    go_wp2
    go_ret
    exact ⟨rfl, rfl⟩
def ents : List (ByteArray × Int) := [(({ data := #[] } : ByteArray), (10 : Int)), (({ data := #[46, 106, 115] } : ByteArray), (10 : Int)), (({ data := #[46, 109, 106, 115] } : ByteArray), (10 : Int)), (({ data := #[46, 99, 106, 115] } : ByteArray), (10 : Int)), (({ data := #[46, 106, 115, 120] } : ByteArray), (13 : Int)), (({ data := #[46, 116, 115] } : ByteArray), (16 : Int)), (({ data := #[46, 99, 116, 115] } : ByteArray), (17 : Int)), (({ data := #[46, 109, 116, 115] } : ByteArray), (17 : Int)), (({ data := #[46, 116, 115, 120] } : ByteArray), (18 : Int)), (({ data := #[46, 99, 115, 115] } : ByteArray), (4 : Int)), (({ data := #[46, 109, 111, 100, 117, 108, 101, 46, 99, 115, 115] } : ByteArray), (14 : Int)), (({ data := #[46, 106, 115, 111, 110] } : ByteArray), (11 : Int)), (({ data := #[46, 116, 120, 116] } : ByteArray), (15 : Int))]
/-- What the default map holds. -/
def D0 : DataW Value := ents.foldl (fun D p => D.put (kl p.1) (.held (.int .u8 p.2))) (.map [])
theorem make26 (w : World) : (Instr.makeMap 26 none).run Tryf.prog w = .ok (.map (some w.heap.size)) (w.alloc (.map #[] 0)) := by kernel_rfl
theorem make25 (w : World) : (Instr.makeMap 25 none).run Tryf.prog w = .ok (.map (some w.heap.size)) (w.alloc (.map #[] 0)) := by kernel_rfl
set_option maxRecDepth 20000 in
theorem dft15 (w : World) : Calls Tryf.prog 15 #[] w fun e w' => e = .returned (.map (some w.heap.size)) ∧ MD w' w.heap.size 13 D0 ∧ Below w.heap.size w w' := by
  have hmk := make26 w
  have hm0 := World.ownsMap_made w Tryf.prog 9 self
  have hb0 : Below w.heap.size w (w.alloc (.map #[] 0)) := (Below.refl _ _).alloc (Nat.le_refl _) _
  go_enter Tryf.func15, Tryf.ntmps15
  go_wp2_with (first | (refine wpList_insert_own _ rfl _ _ _ 26 rfl 9 29 law9 Tryf.underlying26 self w.heap.size _ _ rfl (by assumption) (by unfold maxLen; omega) _ _ _ rfl rfl (key_mk _ (by decide)) _ [] rfl ?_; intro w1 hm1 hg1; have hb1 := Below.grown (by assumption) hg1 (Below.size (by assumption)) (fun k e => by cases e; exact Nat.le_refl _)) | fail)
  go_ret
  exact ⟨rfl, hm1, hb1⟩
end Go.Proofs.YtabjelcbldjedaaFmt.LdA
