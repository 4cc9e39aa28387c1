/- Maps of strings; isValidExtension and zzIsExt give one verdict; fmt.Sprintf's stop; the count of a map's errors. Conditions: lengths. -/
import Derived.Test.YtfjiejndnbnkfaaFmtLn
import Derived.Test.YtfjiejndnbnkfaaFmtMps
import Derived.Test.YtfjiejndnbnkfaaFmtWsum
import Derived.Maps.RangeWalk
import Derived.Maps.Ext
import Derived.WalkSpells
import Derived.Maps.OwnSet
import Derived.Test.YtfjiejndnbnkfaaFmtRows
import Derived.Stop.CallBack
import Derived.Stop.IfaceNil
import GoSem.ClaimData
namespace Go.Proofs.YtfjiejndnbnkfaaFmt.OeA
open Go.RowKit Go.Deep Go.Maps Go.ChangeMaps Go.MapKept Go.Extern.Stop Go.Stop Go.Extern Go.Proofs.YtfjiejndnbnkfaaFmt.Base Go.Proofs.YtfjiejndnbnkfaaFmt.Sls Go.Proofs.YtfjiejndnbnkfaaFmt.Mps Go.Proofs.YtfjiejndnbnkfaaFmt.Wsum Go.Proofs.YtfjiejndnbnkfaaFmt.Lk Go.Proofs.YtfjiejndnbnkfaaFmt.Lm Go.Proofs.YtfjiejndnbnkfaaFmt.Ln
set_option linter.unusedVariables false
@[go_sem] theorem call14 (args : Array Value) (w : World) : (callFunc 14 args).run Tryf.prog w = ((FmtStop.sprintf #[9, 122] #[9] args).run Tryf.prog w).andThen fun v w' => .ok (.value v) w' :=
  run_callFunc_extern Tryf.func14 (by kernel_rfl) (by kernel_rfl) (by kernel_rfl) (by kernel_rfl) args w
@[go_sem] theorem guard (name : String) (w : World) : (FmtStop.guard name).run Tryf.prog w = .ok () w := by kernel_rfl
@[go_sem] theorem fmta0 : FmtStop.printed? ({ data := #[73, 110, 118, 97, 108, 105, 100, 32, 111, 117, 116, 112, 117, 116, 32, 101, 120, 116, 101, 110, 115, 105, 111, 110, 58, 32, 37, 113] } : ByteArray) 1 = some [(0, 113, false)] := by kernel_rfl
@[go_sem] theorem fmta0r (w : World) : (FmtDoors.printed ({ data := #[73, 110, 118, 97, 108, 105, 100, 32, 111, 117, 116, 112, 117, 116, 32, 101, 120, 116, 101, 110, 115, 105, 111, 110, 58, 32, 37, 113] } : ByteArray) 1).run Tryf.prog w = .ok [(0, 113, false)] w := by kernel_rfl
@[go_sem] theorem fmtb0 : FmtStop.printed? ({ data := #[73, 110, 118, 97, 108, 105, 100, 32, 111, 117, 116, 112, 117, 116, 32, 101, 120, 116, 101, 110, 115, 105, 111, 110, 58, 32, 37, 113, 32, 40, 118, 97, 108, 105, 100, 58, 32, 46, 99, 115, 115, 44, 32, 46, 106, 115, 41] } : ByteArray) 1 = some [(0, 113, false)] := by kernel_rfl
@[go_sem] theorem fmtb0r (w : World) : (FmtDoors.printed ({ data := #[73, 110, 118, 97, 108, 105, 100, 32, 111, 117, 116, 112, 117, 116, 32, 101, 120, 116, 101, 110, 115, 105, 111, 110, 58, 32, 37, 113, 32, 40, 118, 97, 108, 105, 100, 58, 32, 46, 99, 115, 115, 44, 32, 46, 106, 115, 41] } : ByteArray) 1).run Tryf.prog w = .ok [(0, 113, false)] w := by kernel_rfl
def shape9 : List UInt8 := [12, 6, 0, 0, 0, 0, 0, 0, 0, 115, 116, 114, 105, 110, 103]
@[go_sem] theorem op9_113 (name : String) (x : ByteArray) (w : World) : (FmtStop.operand name false 113 false (.iface 9 (.string x))).run Tryf.prog w = .ok (shape9, FmtStop.pack x.data.toList) w := by kernel_rfl
theorem law9 : Keyed Tryf.prog 9 := string_keyed Tryf.underlying9
abbrev MD (w : World) (b n : Nat) (D : DataW Value) : Prop := w.ownsMap Tryf.prog 9 self b n D
theorem key_mk (x : ByteArray) (h : x.size ≤ maxLen) : keyOf Tryf.prog 9 (.string x) = some (kl x) := WideMaps.keyOf_string_mk Tryf.underlying9 h
theorem key_inv {key : Value} {l : Lit} (h : keyOf Tryf.prog 9 key = some l) : ∃ x : ByteArray, key = .string x ∧ l = kl x ∧ x.size ≤ maxLen := by
  rw [keyOf_string Tryf.underlying9] at h
  cases key <;> simp [mapKey, Tryf.underlying9] at h
  rename_i x
  exact ⟨x, rfl, h.2.symm, h.1⟩
theorem make26 (w : World) (v : Option Value) : (Instr.makeMap 26 none).run Tryf.prog w = .ok (.map (some w.heap.size)) (w.alloc (.map #[] 0)) := by kernel_rfl
theorem isMap0 : IsMap (.map [] : DataW Value) := ⟨[], rfl⟩
theorem put_isMap {D : DataW Value} (h : IsMap D) (k : Lit) (d : DataW Value) : IsMap (D.put k d) := by
  obtain ⟨es, rfl⟩ := h
  exact ⟨_, rfl⟩
theorem md_to {w w' : World} {b n : Nat} {D : DataW Value} (h : MD w b n D) (hb : w'.heap[b]? = w.heap[b]?) : MD w' b n D := by
  obtain ⟨es, clock, h1, h2⟩ := h
  exact ⟨es, clock, hb.trans h1, h2⟩
theorem md_drew {w : World} {b n : Nat} {D : DataW Value} (h : MD w b n D) : MD w.drew b n D := by
  obtain ⟨es, clock, h1, h2⟩ := h
  exact ⟨es, clock, h1, h2⟩
theorem rg_to {w w' : World} {b r n cnt : Nat} {D : DataW Value} {left : Lit → Bool} (h : w.ranges Tryf.prog 9 self b r n D left cnt) (h1 : w'.heap[b]? = w.heap[b]?) (h2 : w'.heap[r]? = w.heap[r]?) : w'.ranges Tryf.prog 9 self b r n D left cnt := by
  obtain ⟨es, clock, since, seen, c0, hb, F, hs, hD, hr, rest⟩ := h
  exact ⟨es, clock, since, seen, c0, h1.trans hb, F, hs, hD, h2.trans hr, rest⟩
/-- isValidExtension and zzIsExt: one verdict. -/
theorem valid_any (s : ByteArray) (hs : s.size ≤ maxLen) : ∃ b : Bool, (∀ w, Calls Tryf.prog 12 #[.string s] w fun e w' => e = .returned (.bool b) ∧ w = w') ∧ ∀ w, Calls Tryf.prog 8 #[.string s] w fun e w' => e = .returned (.bool b) ∧ w = w' := by
  unfold maxLen at hs
  by_cases h2 : 2 ≤ s.size
  · obtain ⟨x, hx⟩ : ∃ x : Bool, (((s[0]'(by omega)).toNat : Int) == 46) = x := ⟨_, rfl⟩
    cases x
    · refine ⟨false, fun w => ?_, fun w => ?_⟩
      · go_enter Tryf.func12, Tryf.ntmps12
        go_wp2
        go_ret
        exact ⟨rfl, rfl⟩
      · go_enter Tryf.func8, Tryf.ntmps8
        go_wp2
        go_ret
        exact ⟨rfl, rfl⟩
    · refine ⟨(((s[s.size - 1]'(by omega)).toNat : Int) != 46), fun w => ?_, fun w => ?_⟩
      · go_enter Tryf.func12, Tryf.ntmps12
        go_wp2
        go_ret
        exact ⟨rfl, rfl⟩
      · go_enter Tryf.func8, Tryf.ntmps8
        go_wp2
        go_ret
        exact ⟨rfl, rfl⟩
  · refine ⟨false, fun w => ?_, fun w => ?_⟩
    · go_enter Tryf.func12, Tryf.ntmps12
      go_wp2
      go_ret
      exact ⟨rfl, rfl⟩
    · go_enter Tryf.func8, Tryf.ntmps8
      go_wp2
      go_ret
      exact ⟨rfl, rfl⟩
noncomputable def vx (s : ByteArray) : Bool := if h : s.size ≤ maxLen then (valid_any s h).choose else false
theorem vx12 (s : ByteArray) (hs : s.size ≤ maxLen) (w : World) : Calls Tryf.prog 12 #[.string s] w fun e w' => e = .returned (.bool (vx s)) ∧ w = w' := by
  have e : vx s = (valid_any s hs).choose := by unfold vx; rw [dif_pos hs]
  rw [e]; exact (valid_any s hs).choose_spec.1 w
theorem vx8 (s : ByteArray) (hs : s.size ≤ maxLen) (w : World) : Calls Tryf.prog 8 #[.string s] w fun e w' => e = .returned (.bool (vx s)) ∧ w = w' := by
  have e : vx s = (valid_any s hs).choose := by unfold vx; rw [dif_pos hs]
  rw [e]; exact (valid_any s hs).choose_spec.2 w
def JS : ByteArray := { data := #[46, 106, 115] }
def CSS : ByteArray := { data := #[46, 99, 115, 115] }
def gs : DataW Value → ByteArray
  | .held (.string v) => v
  | _ => { data := #[] }
/-- What the map holds at a key: the empty text where there is none. -/
def gt (D : DataW Value) (s : ByteArray) : ByteArray := gs (D.atKey (kl s) .nil)
noncomputable def e1 (v : ByteArray) : Nat := if vx v = true then 0 else 1
open Classical in
noncomputable def e2 (k : Lit) : Nat := if k = kl JS ∨ k = kl CSS then 0 else 1
/-- How many errors an entry costs. -/
noncomputable def er (k : Lit) (d : DataW Value) : Nat := e1 (gs d) + e2 k
theorem er_le (k : Lit) (d : DataW Value) : er k d ≤ 2 := by
  unfold er e1 e2
  split <;> split <;> omega
/-- Every entry is a text of a bearable length. -/
def Good (D : DataW Value) : Prop := ∀ k, Maps.has D k = true → ∃ v : ByteArray, v.size ≤ maxLen ∧ ∀ z, D.atKey k z = .held (.string v)
theorem good0 : Good (.map []) := fun k h => (by cases h)
theorem good_put {D : DataW Value} (h : Good D) (hm : IsMap D) (s v : ByteArray) (hv : v.size ≤ maxLen) : Good (D.put (kl s) (.held (.string v))) := fun l hl => by
  rcases Classical.em (l = kl s) with e | e
  · subst e
    exact ⟨v, hv, fun z => atKey_put_same hm (kl_key _) _ z⟩
  · rw [has_put_other e] at hl
    obtain ⟨u, h0, h1⟩ := h l hl
    exact ⟨u, h0, fun z => (atKey_put_other e _ z).trans (h1 z)⟩
theorem gt_put {D : DataW Value} {x s : ByteArray} (h : s ≠ x) (d : DataW Value) : gt (D.put (kl x) d) s = gt D s := by
  unfold gt
  rw [atKey_put_other (fun e => h (kl_inj e))]
theorem gt_none {D : DataW Value} {s : ByteArray} (h : Maps.has D (kl s) = false) : gt D s = { data := #[] } := by
  unfold gt
  rw [atKey_of_not_has h]; rfl
/-- What has been read at a key so far. -/
def sel (D : DataW Value) (left : Lit → Bool) (s : ByteArray) : ByteArray := if left (kl s) = true then { data := #[] } else gt D s
theorem sel_start (D : DataW Value) (s : ByteArray) : sel D (Maps.has D) s = { data := #[] } := by
  unfold sel
  split
  · rfl
  · rename_i h; exact gt_none (by simpa using h)
theorem sel_hit {D : DataW Value} {left : Lit → Bool} {x v : ByteArray} (hat : ∀ z, D.atKey (kl x) z = .held (.string v)) : sel D (fun z => left z && !z.sameKey (kl x)) x = v := by
  unfold sel
  have e : (kl x).sameKey (kl x) = true := WideAt.sameKey_self (kl_key x)
  rw [if_neg (by show ¬ (left (kl x) && !(kl x).sameKey (kl x)) = true; rw [e]; simp)]
  unfold gt
  rw [hat]; rfl
theorem sel_other {D : DataW Value} {left : Lit → Bool} {x s : ByteArray} (h : s ≠ x) : sel D (fun z => left z && !z.sameKey (kl x)) s = sel D left s := by
  have e : (kl s).sameKey (kl x) = false := sameKey_ne (fun e => h (kl_inj e))
  show (if (left (kl s) && !(kl s).sameKey (kl x)) = true then _ else gt D s) = (if left (kl s) = true then _ else gt D s)
  rw [e]
  simp
theorem sel_end (D : DataW Value) (left : Lit → Bool) (h : ∀ k, left k = false) (s : ByteArray) : sel D left s = gt D s := by
  unfold sel
  rw [h]; rfl
theorem js_ne : JS ≠ CSS := by intro e; injection e with e; simp at e
end Go.Proofs.YtfjiejndnbnkfaaFmt.OeA
