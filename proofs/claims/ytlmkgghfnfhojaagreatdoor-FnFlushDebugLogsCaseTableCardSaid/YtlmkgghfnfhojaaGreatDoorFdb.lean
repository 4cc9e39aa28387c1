/- addNote by its contract: one note more, the indent ahead of its text. Conditions: lengths of at most 2^24. -/
import Derived.Test.YtlmkgghfnfhojaaGreatDoorFda
namespace Go.Proofs.YtlmkgghfnfhojaaGreatDoor.Fdb
open Go.ChangeShapes Go.WideShapes Go.ChangeAt Go.RowKit Go.Deep Go.Proofs.YtlmkgghfnfhojaaGreatDoor.Base Go.Proofs.YtlmkgghfnfhojaaGreatDoor.Sls Go.Proofs.YtlmkgghfnfhojaaGreatDoor.Fda
set_option linter.unusedVariables false
/-- The cells of the notes. -/
def nv (l : List ByteArray) : List Value := l.flatMap fun s => [.nilIface, .pointer none, .string s, .bool true]
theorem nv_len (l : List ByteArray) : (nv l).length = l.length * 4 := by
  induction l with
  | nil => rfl
  | cons a l ih =>
    have : nv (a :: l) = [.nilIface, .pointer none, .string a, .bool true] ++ nv l := by simp [nv]
    rw [this, List.length_append, ih]; simp; omega
theorem nv_snoc (l : List ByteArray) (s : ByteArray) : nv (l ++ [s]) = nv l ++ [.nilIface, .pointer none, .string s, .bool true] := by simp [nv]
theorem nv_at (l : List ByteArray) (k r : Nat) (h : k < l.length) (hr : r < 4) : (nv l)[k * 4 + r]? = [Value.nilIface, .pointer none, .string l[k], .bool true][r]? := by
  induction l generalizing k with
  | nil => simp at h
  | cons a l ih =>
    have e : nv (a :: l) = [.nilIface, .pointer none, .string a, .bool true] ++ nv l := by simp [nv]
    rw [e]
    cases k with
    | zero => rw [List.getElem?_append_left (by simp; omega)]; simp
    | succ k =>
      rw [List.getElem?_append_right (by simp; omega)]
      have : (k + 1) * 4 + r - [Value.nilIface, .pointer none, .string a, .bool true].length = k * 4 + r := by simp; omega
      rw [this, ih k (by simpa using h)]; simp
/-- The notes in a row of the call's own. -/
def Nts (w : World) (base : Nat) (v : Value) (l : List ByteArray) : Prop := w.ownsRow base 45 4 v l.length (nv l)
theorem Nts.form {w : World} {base : Nat} {v : Value} {l : List ByteArray} (h : Nts w base v l) : ∃ A c, v = .slice A l.length c := by
  rcases h.2 with ⟨rfl, h0⟩ | ⟨g, cap, cur, rfl, _⟩
  · exact ⟨none, 0, by rw [h0]⟩
  · exact ⟨_, _, rfl⟩
/-- Blocks of other element types than T are as they were. -/
def Kt (T : Nat) (w w' : World) : Prop := ∀ (k : Nat) (cs : Array Value) (t : Nat), w.heap[k]? = some (.cells cs t (0, 0)) → t ≠ T → w'.heap[k]? = some (.cells cs t (0, 0))
theorem Kt.of_grown {w w' : World} {T size base n : Nat} {v : Value} {xs : List Value} (hg : w.grownBy w' v.ownBlock) (ho : w.ownsRow base T size v n xs) : Kt T w w' := by
  intro k cs t hk ht
  rw [hg.block k (lt_of_block hk) ?_]
  · exact hk
  · rcases ho.2 with ⟨rfl, _⟩ | ⟨g, cap, cur, rfl, _, hh, _⟩
    · simp [Value.ownBlock]
    · intro e
      have : k = g := by simpa [Value.ownBlock] using e
      subst this
      rw [hh] at hk
      injection hk with hk
      injection hk with _ h2
      exact ht h2.symm
theorem Kt.alloc (w : World) (o : Obj) (T : Nat) : Kt T w (w.alloc o) := fun k cs t hk _ => (Below.heap_alloc w o k (lt_of_block hk)).trans hk
theorem Kt.set {w : World} {T : Nat} {p : Addr} {cs : Array Value} (hp : w.heap[p.block]? = some (.cells cs T (0, 0))) (u : Value) : Kt T w (w.setCell p u) := fun k c t hk ht => by
  rw [Below.heap_setCell w p u k (by
    rintro rfl
    rw [hp] at hk
    injection hk with hk
    injection hk with _ h2
    exact ht h2.symm)]
  exact hk
theorem rows_kt {w w' : World} {T base e size n : Nat} {v : Value} {xs : List Value} (h : w.ownsRow base e size v n xs) (k : Kt T w w') (hne : e ≠ T) : w'.ownsRow base e size v n xs := by
  obtain ⟨hx, ⟨rfl, h0⟩ | ⟨g, cap, cur, rfl, hb, hh, hr⟩⟩ := h
  · exact ⟨hx, .inl ⟨rfl, h0⟩⟩
  · exact ⟨hx, .inr ⟨g, cap, cur, rfl, hb, k g cur e hh hne, hr⟩⟩
theorem own_kt {w w' : World} {T base e : Nat} {v : Value} {xs : List Value} (h : Own w base e v xs) (k : Kt T w w') (hne : e ≠ T) : Own w' base e v xs := rows_kt h k hne
theorem Nts.kt {w w' : World} {T base : Nat} {v : Value} {l : List ByteArray} (h : Nts w base v l) (k : Kt T w w') (hne : 45 ≠ T) : Nts w' base v l := rows_kt h k hne
theorem row_kt {w w' : World} {T b t n : Nat} {f : Nat → Value} (h : w.rowIs b t n f) (k : Kt T w w') (hne : t ≠ T) : w'.rowIs b t n f := by
  obtain ⟨c, hh, hs, hc⟩ := h
  exact ⟨c, k b c t hh hne, hs, hc⟩
theorem dl_set2 (what ind : ByteArray) (notes u : Value) (i : Nat) (h : i < 3) : (if i = 2 then u else dl what ind notes i) = dl what ind u i := by
  match i, h with
  | 0, _ => rfl
  | 1, _ => rfl
  | 2, _ => rfl
theorem info45 : (Tryz.prog.info? 45).map (fun i => (i.zero, i.size, i.bytes)) = some (some (.agg #[.nilIface, .pointer none, .string { data := #[] }, .bool false]), 4, 48) := by kernel_rfl
/-- What addNote leaves. -/
def Noted (D base : Nat) (what ind : ByteArray) (l : List ByteArray) (w w' : World) : Prop :=
  ∃ A' c', w'.rowIs D 50 3 (dl what ind (.slice A' l.length c')) ∧ Nts w' base (.slice A' l.length c') l ∧ Below base w w' ∧ (∃ w1, Kt 45 w w1 ∧ Kt 50 w1 w')
set_option maxHeartbeats 1000000 in
theorem note_core (D base n c : Nat) (A : Option Addr) (what ind text : ByteArray) (l : List ByteArray) (w : World) (hl : l.length = n) (hn : n ≤ 4096) (hz : ind.size + text.size ≤ 16777216) (hD : base ≤ D) (hr : w.rowIs D 50 3 (dl what ind (.slice A n c))) (ho : Nts w base (.slice A n c) l) (hb : base ≤ w.heap.size) :
    Calls Tryz.prog 15 #[.pointer (some ⟨D, 0, none⟩), .string text] w fun e w' => e = .returned (.tuple #[]) ∧ Noted D base what ind (l ++ [ind ++ text]) w w' := by
  obtain ⟨i0, hi, hz0, hz1, hz2⟩ := info_parts info45
  have c1 : w.cell? ⟨D, 1, none⟩ = some (.string ind) := hr.cell (i := 1) (by omega)
  have c2 : w.cell? ⟨D, 2, none⟩ = some (.slice A n c) := hr.cell (i := 2) (by omega)
  have HI := Lib.hid hi; have Z0 := Lib.hid hz0; have Z1 := Lib.hid hz1; have Z2 := Lib.hid hz2
  have HL := Lib.hid hl; have HR := Lib.hid hr; have HO := Lib.hid ho
  have hdl := hr.lt
  clear hi hz0 hz1 hz2 hl hr ho
  obtain ⟨tx, htx⟩ : ∃ tx, tx = ind ++ text := ⟨_, rfl⟩
  have HTX := Lib.hid htx
  rw [← htx]
  clear htx
  have fin : ∀ (v' : Value) (w1 : World), w1.ownsRow base 45 4 v' (n + 1) (nv l ++ [.nilIface, .pointer none, .string tx, .bool true]) → (w.alloc (.cells #[.nilIface, .pointer none, .string tx, .bool true] 45)).grownBy w1 (Value.slice A n c).ownBlock →
      ∃ A' c', v' = .slice A' (n + 1) c' ∧ w1.cell? ⟨D, 2, none⟩ = some (.slice A n c) ∧ w1.frozen? ⟨D, 2, none⟩ = false ∧ Noted D base what ind (l ++ [tx]) w (w1.setCell ⟨D, 2, none⟩ (.slice A' (n + 1) c')) := by
    intro v' w1 h1 hg
    have hln : (l ++ [tx]).length = n + 1 := by rw [List.length_append, HL.out]; rfl
    have hN : Nts w1 base v' (l ++ [tx]) := by
      unfold Nts
      rw [hln, nv_snoc]; exact h1
    obtain ⟨A', c', hv⟩ := hN.form
    rw [hln] at hv
    subst hv
    have own0 : (w.alloc (.cells #[.nilIface, .pointer none, .string tx, .bool true] 45)).ownsRow base 45 4 (.slice A n c) l.length (nv l) := World.ownsRow.alloc HO.out _
    have k0 : Kt 45 (w.alloc (.cells #[.nilIface, .pointer none, .string tx, .bool true] 45)) w1 := Kt.of_grown hg own0
    have k1 : Kt 45 w w1 := fun k cs t hk ht => k0 k cs t (Kt.alloc w _ 45 k cs t hk ht) ht
    have R1 := row_kt HR.out k1 (by decide)
    obtain ⟨cs, hcs, hcs2, _⟩ := id R1
    have k2 : Kt 50 w1 (w1.setCell ⟨D, 2, none⟩ (.slice A' (n + 1) c')) := Kt.set (p := ⟨D, 2, none⟩) hcs _
    refine ⟨A', c', rfl, R1.cell (i := 2) (by omega), R1.frozen 2, A', c', ?_, ?_, ?_, w1, k1, k2⟩
    · rw [hln]; exact (R1.set 2 _).congr (fun i hi => dl_set2 what ind _ _ i hi)
    · rw [hln]; exact hN.kt k2 (by decide)
    · exact ((((Below.refl base w).alloc hb _).grown hg (by simp; omega) (fun g hg => (HO.out.lt g hg).1)).setCell (p := ⟨D, 2, none⟩) hD _)
  have FIN := Lib.hid fin
  clear fin
  have he : ind.toList = [] ∧ tx = text ∨ ind.toList.isEmpty = false ∧ (!ind.toList.isEmpty) = true := by
    rcases Nat.eq_zero_or_pos ind.size with h0 | h0
    · left
      have h1 : ind.data.toList = [] := List.eq_nil_of_length_eq_zero (by rw [len_list]; exact h0)
      exact ⟨by rw [Lib.toList_data]; exact h1, by rw [HTX.out]; apply ext_list; rw [list_append, h1]; rfl⟩
    · right
      have h1 : ind.toList.isEmpty = false := by
        rw [Lib.toList_data, List.isEmpty_eq_false_iff]; intro e; have := len_list ind; rw [e] at this; simp at this; omega
      exact ⟨h1, by rw [h1]; rfl⟩
  have OWN : Hid (w.ownsRow base 45 4 (.slice A n c) n (nv l)) := Lib.hid (by have := HO.out; unfold Nts at this; rw [HL.out] at this; exact this)
  rcases he with ⟨h1, rfl⟩ | ⟨h1, h2⟩
  · go_enter Tryz.func15, Tryz.ntmps15
    go_wp2_with (at_builtin; refine wpList_append_own_at _ rfl (.tmp 19) (.tmp 22) 42 rfl base 45 i0 _ 4 48 Tryz.underlying42 HI.out Z0.out Z1.out Z2.out rfl (by omega) (.slice A n c) n (nv l) rfl (World.ownsRow.alloc OWN.out _) ⟨w.heap.size, 0, none⟩ 1 1 [.nilIface, .pointer none, .string tx, .bool true] rfl rfl (World.news_of_block (heap_alloc_new w _)) ?c2 ?c3 ?c4 ?c5 ?c6)
    case c2 => intro u hu; simp at hu; rcases hu with rfl | rfl | rfl | rfl <;> rfl
    case c3 => unfold maxLen; omega
    case c4 => omega
    case c5 => simp; omega
    case c6 =>
      intro v' w1 hown hg _ hat
      obtain ⟨A', c', rfl, d2, f2, HNo⟩ := FIN.out v' w1 hown hg
      have NO := Lib.hid HNo
      clear hown hg hat HNo
      go_wp2
      go_end0
      exact ⟨rfl, NO.out⟩
  · have EX := Lib.hid HTX.out
    have FN := FIN.out
    rw [HTX.out] at FN ⊢
    have FIN := Lib.hid FN
    clear FN
    go_enter Tryz.func15, Tryz.ntmps15
    go_wp2_with (at_builtin; refine wpList_append_own_at _ rfl (.tmp 19) (.tmp 22) 42 rfl base 45 i0 _ 4 48 Tryz.underlying42 HI.out Z0.out Z1.out Z2.out rfl (by omega) (.slice A n c) n (nv l) rfl (World.ownsRow.alloc OWN.out _) ⟨w.heap.size, 0, none⟩ 1 1 [.nilIface, .pointer none, .string (ind ++ text), .bool true] rfl rfl (World.news_of_block (heap_alloc_new w _)) ?c2 ?c3 ?c4 ?c5 ?c6)
    case c2 => intro u hu; simp at hu; rcases hu with rfl | rfl | rfl | rfl <;> rfl
    case c3 => unfold maxLen; omega
    case c4 => omega
    case c5 => simp; omega
    case c6 =>
      intro v' w1 hown hg _ hat
      obtain ⟨A', c', rfl, d2, f2, HNo⟩ := FIN.out v' w1 hown hg
      have NO := Lib.hid HNo
      clear hown hg hat HNo
      go_wp2
      go_end0
      exact ⟨rfl, NO.out⟩
theorem note_any (D base n c : Nat) (A : Option Addr) (what ind text : ByteArray) (l : List ByteArray) (w : World) (hl : l.length = n) (hn : n ≤ 4096) (hz : ind.size + text.size ≤ 16777216) (hD : base ≤ D) (hr : w.rowIs D 50 3 (dl what ind (.slice A n c))) (ho : Nts w base (.slice A n c) l) (hb : base ≤ w.heap.size) :
    Calls Tryz.prog 9 #[.pointer (some ⟨D, 0, none⟩), .string text] w fun e w' => e = .returned (.tuple #[]) ∧ Noted D base what ind (l ++ [ind ++ text]) w w' := by
  have H := Lib.hid (note_core D base n c A what ind text l w hl hn hz hD hr ho hb)
  generalize Noted D base what ind (l ++ [ind ++ text]) w = Q at H ⊢
  clear hl hr ho
  go_enter Tryz.func9, Tryz.ntmps9
  go_wp2_with fail
  refine H.out.mono ?_
  rintro e w' ⟨rfl, hq⟩
  go_wp2
  go_end0
  exact ⟨rfl, hq⟩
end Go.Proofs.YtlmkgghfnfhojaaGreatDoor.Fdb
