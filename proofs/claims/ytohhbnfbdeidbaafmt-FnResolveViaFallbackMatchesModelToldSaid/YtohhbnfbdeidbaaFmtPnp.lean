/- The PnP manifest by its contracts: made, an ident and a package put, a package got. No condition but lengths. -/
import Derived.Test.YtohhbnfbdeidbaaFmtMps
import Derived.Test.YtohhbnfbdeidbaaFmtProg
import Derived.Laws.Tables
import Derived.Laws.Rows
namespace Go.Proofs.YtohhbnfbdeidbaaFmt.Pnp
open Go.RowKit Go.Maps Go.Proofs.YtohhbnfbdeidbaaFmt.Base Go.Proofs.YtohhbnfbdeidbaaFmt.Mps
set_option linter.unusedVariables false
abbrev MI := MapIs Tryf.prog 9
/-- Block b is a manifest with the registry M and the pool Q. -/
def Man (w : World) (b M Q : Nat) : Prop := ∃ cs, w.heap[b]? = some (.cells cs 48 (0, 0)) ∧ cs[4]? = some (.map (some M)) ∧ cs[1]? = some (.map (some Q))
theorem Man.reg {w : World} {b M Q : Nat} (h : Man w b M Q) : w.cell? ⟨b, 4, none⟩ = some (.map (some M)) := by
  obtain ⟨cs, hb, h4, _⟩ := h
  simp [World.cell?, hb, h4]
theorem Man.pool {w : World} {b M Q : Nat} (h : Man w b M Q) : w.cell? ⟨b, 1, none⟩ = some (.map (some Q)) := by
  obtain ⟨cs, hb, _, h4⟩ := h
  simp [World.cell?, hb, h4]
theorem Man.of_block {w w' : World} {b M Q : Nat} (h : Man w b M Q) (e : w'.heap[b]? = w.heap[b]?) : Man w' b M Q := by
  obtain ⟨cs, hb, r⟩ := h
  exact ⟨cs, e.trans hb, r⟩
theorem Man.lt {w : World} {b M Q : Nat} (h : Man w b M Q) : b < w.heap.size := by
  obtain ⟨cs, hb, _⟩ := h
  exact (Array.getElem?_eq_some_iff.1 hb).1
theorem Man.kept {w w' : World} {b M Q : Nat} {row : Option Nat} (h : Man w b M Q) (hg : w.grownBy w' row) (hne : some b ≠ row) : Man w' b M Q := h.of_block (hg.block b h.lt hne)
theorem Man.below {w w' : World} {b M Q B : Nat} (h : Man w b M Q) (hB : Below B w w') (hb : b < B) : Man w' b M Q := h.of_block (hB.block b hb)
/-- A manifest's block is no map. -/
theorem Man.ne {w : World} {b M Q m n : Nat} {f : ByteArray → Option Value} (h : Man w b M Q) (hm : MI w m n f) : b ≠ m := by
  rintro rfl
  obtain ⟨cs, hb, _⟩ := h
  obtain ⟨D, ⟨es, clock, h1, _⟩, _⟩ := hm
  rw [hb] at h1
  cases h1
theorem zero49 (w : World) : (zeroValue 49).run Tryf.prog w = .ok (.map none) w := by kernel_rfl
theorem zero55 (w : World) : (zeroValue 55).run Tryf.prog w = .ok (.agg #[.map none, .string ⟨#[]⟩, .int .i32 0, .int .i32 0, .bool false]) w := by kernel_rfl
theorem zero65 (w : World) : (zeroValue 65).run Tryf.prog w = .ok (.agg #[.string ⟨#[]⟩, .string ⟨#[]⟩, .int .i32 0, .int .i32 0]) w := by kernel_rfl
/-- A package's value. -/
def pkg (d : Option Nat) (loc : ByteArray) : Value := .agg #[.map d, .string loc, .int .i32 0, .int .i32 0, .bool false]
def New (w : World) (e : Ending) (w' : World) : Prop :=
  e = .returned (.pointer (some ⟨w.heap.size + 2, 0, none⟩)) ∧ Man w' (w.heap.size + 2) w.heap.size (w.heap.size + 1) ∧ MI w' w.heap.size 0 (fun _ => none) ∧ MI w' (w.heap.size + 1) 0 (fun _ => none) ∧ Below w.heap.size w w' ∧ w'.heap.size = w.heap.size + 3
theorem new7 (w : World) : Calls Tryf.prog 7 #[] w (New w) := by
  have hmm := @run_makeMap Tryf.prog
  go_enter Tryf.func7, Tryf.ntmps7
  go_wp2
  go_ret
  have s1 : (w.alloc (Obj.map #[] 0)).heap.size = w.heap.size + 1 := by simp
  have m1 := MapIs.made Tryf.prog 9 w
  have m2 := MapIs.made Tryf.prog 9 (w.alloc (Obj.map #[] 0))
  rw [s1] at m2
  have s2 : ((w.alloc (Obj.map #[] 0)).alloc (Obj.map #[] 0)).heap.size = w.heap.size + 2 := by simp
  have hh := heap_alloc_new ((w.alloc (Obj.map #[] 0)).alloc (Obj.map #[] 0))
  rw [s2] at hh
  exact ⟨rfl, ⟨_, hh _, rfl, rfl⟩, (m1.alloc _).alloc _, m2.alloc _, (((Below.refl _ _).alloc (Nat.le_refl _) _).alloc (by simp) _).alloc (by simp; omega) _, by simp⟩
theorem grown_alloc {w w' : World} {o : Obj} {row : Option Nat} (h : (w.alloc o).grownBy w' row) : w.grownBy w' row :=
  have hs : (w.alloc o).heap.size = w.heap.size + 1 := by simp
  have hb := (Below.refl w.heap.size w).alloc (Nat.le_refl _) o
  ⟨h.os.trans hb.os, h.tape.trans hb.tape, h.output.trans hb.output, by have := h.size; omega, fun i hi hne => (h.block i (by omega) hne).trans (hb.block i hi)⟩
def Idt (b M Q nM : Nat) (f : ByteArray → Option Value) (s : ByteArray) (w : World) (e : Ending) (w' : World) : Prop :=
  e = .returned (.tuple #[]) ∧ Man w' b M Q ∧ MI w' M (nM + 1) (upd f s (.map (some w.heap.size))) ∧ MI w' w.heap.size 0 (fun _ => none) ∧ w.grownBy w' (some M)
theorem ident8 (b M Q nM : Nat) (f : ByteArray → Option Value) (s : ByteArray) (w : World) (h : Man w b M Q) (hm : MI w M nM f) (hn : nM ≤ 4194304) (hs : s.size ≤ maxLen) :
    Calls Tryf.prog 8 #[.pointer (some ⟨b, 0, none⟩), .string s] w (Idt b M Q nM f s w) := by
  have hmm := @run_makeMap Tryf.prog
  have c4 := h.reg
  have hb := h.lt
  have hML := hm.lt
  have H := Lib.hid h; have HM := Lib.hid hm
  have hmx : nM < maxLen := by unfold maxLen; omega
  clear h hm
  go_enter Tryf.func8, Tryf.ntmps8
  go_wp2_with (at_mapUpdate; refine wp_store _ rfl _ _ _ 38 rfl Tryf.underlying9 Tryf.underlying38 M nM f rfl (HM.out.alloc _) hmx s rfl hs _ rfl ?_; intro w1 hm1 hg1)
  have HM1 := Lib.hid hm1; have HG := Lib.hid hg1
  clear hm1 hg1
  go_wp2
  go_end0
  have g : w.grownBy w1 (some M) := grown_alloc HG.out
  exact ⟨rfl, H.out.kept g (by have := H.out.ne HM.out; simpa using this), HM1.out, (MapIs.made Tryf.prog 9 w).kept HG.out (by simp; omega), g⟩
def Put (b M Q I nI : Nat) (g : ByteArray → Option Value) (r loc : ByteArray) (w : World) (e : Ending) (w' : World) : Prop :=
  e = .returned (.tuple #[]) ∧ Man w' b M Q ∧ MI w' I (nI + 1) (upd g r (pkg (some w.heap.size) loc)) ∧ MI w' w.heap.size 0 (fun _ => none) ∧ w.grownBy w' (some I)
theorem put9 (b M Q I nM nI : Nat) (f g : ByteArray → Option Value) (i r loc : ByteArray) (w : World) (h : Man w b M Q) (hm : MI w M nM f) (hf : f i = some (.map (some I))) (hi : MI w I nI g) (hn : nI ≤ 4194304) (hs : i.size ≤ maxLen) (hr : r.size ≤ maxLen) :
    Calls Tryf.prog 9 #[.pointer (some ⟨b, 0, none⟩), .string i, .string r, .string loc] w (Put b M Q I nI g r loc w) := by
  have hmm := @run_makeMap Tryf.prog
  have c4 := h.reg
  have hb := h.lt
  have hML := hm.lt
  have hIL := hi.lt
  have H := Lib.hid h; have HM := Lib.hid hm; have HI := Lib.hid hi; have HF := Lib.hid hf
  have hmx : nI < maxLen := by unfold maxLen; omega
  clear h hm hi hf
  go_enter Tryf.func9, Tryf.ntmps9
  go_wp2_with (first | (at_lookup; refine wp_hit1 _ rfl _ _ 38 rfl Tryf.underlying9 Tryf.underlying38 (.map none) (zero49 _) M nM f rfl HM.out i rfl hs _ HF.out ?_) | (at_mapUpdate; refine wp_store _ rfl _ _ _ 49 rfl Tryf.underlying9 Tryf.underlying49 I nI g rfl (HI.out.alloc _) hmx r rfl hr _ rfl ?_; intro w1 hm1 hg1))
  have HM1 := Lib.hid hm1; have HG := Lib.hid hg1
  clear hm1 hg1
  go_wp2
  go_end0
  have gg : w.grownBy w1 (some I) := grown_alloc HG.out
  exact ⟨rfl, H.out.kept gg (by have := H.out.ne HI.out; simpa using this), HM1.out, (MapIs.made Tryf.prog 9 w).kept HG.out (by simp; omega), gg⟩
def Got (p : Value) (ok : Bool) (w : World) (e : Ending) (w' : World) : Prop := e = .returned (.tuple #[p, .bool ok]) ∧ Below w.heap.size w w'
def q0 : Value := .agg #[.pointer none, .pointer none, .pointer none, .int .u8 0]
set_option maxHeartbeats 400000 in
theorem hit19 (b M Q I nM nI : Nat) (f g : ByteArray → Option Value) (i r loc : ByteArray) (d : Option Nat) (w : World) (h : Man w b M Q) (hm : MI w M nM f) (hf : f i = some (.map (some I))) (hi : MI w I nI g) (hg : g r = some (pkg d loc)) (hs : i.size ≤ maxLen) (hr : r.size ≤ maxLen) :
    Calls Tryf.prog 19 #[q0, .pointer (some ⟨b, 0, none⟩), .string i, .string r] w (Got (pkg d loc) true w) := by
  have c4 := h.reg
  have hb := h.lt
  have HM := Lib.hid hm; have HI := Lib.hid hi; have HF := Lib.hid hf; have HG := Lib.hid hg
  clear h hm hi hf hg
  unfold q0
  go_enter Tryf.func19, Tryf.ntmps19
  go_wp2_with (first | (at_lookup; refine wp_hit _ rfl _ _ 38 rfl Tryf.underlying9 Tryf.underlying38 (.map none) (zero49 _) M nM f rfl ((HM.out.alloc _).alloc _) i rfl hs _ HF.out ?_) | (at_lookup; refine wp_hit _ rfl _ _ 49 rfl Tryf.underlying9 Tryf.underlying49 _ (zero55 _) I nI g rfl ((HI.out.alloc _).alloc _) r rfl hr (.agg #[.map d, .string loc, .int .i32 0, .int .i32 0, .bool false]) HG.out ?_))
  exact bodyPost_ret (v := .tuple #[.agg #[.map d, .string loc, .int .i32 0, .int .i32 0, .bool false], .bool true]) (by simp [results, Tryf.results19, go_sem]) rfl ⟨rfl, (((Below.refl _ _).alloc (Nat.le_refl _) _).alloc (by simp) _).alloc (by simp; omega) _⟩
def e0 : ByteArray := ⟨#[]⟩
set_option maxHeartbeats 400000 in
theorem none19 (b M Q nM : Nat) (f : ByteArray → Option Value) (i r : ByteArray) (w : World) (h : Man w b M Q) (hm : MI w M nM f) (hf : f i = none) (hs : i.size ≤ maxLen) :
    Calls Tryf.prog 19 #[q0, .pointer (some ⟨b, 0, none⟩), .string i, .string r] w (Got (pkg none e0) false w) := by
  have c4 := h.reg
  have hb := h.lt
  have HM := Lib.hid hm; have HF := Lib.hid hf
  clear h hm hf
  unfold q0
  go_enter Tryf.func19, Tryf.ntmps19
  go_wp2_with (at_lookup; refine wp_miss _ rfl _ _ 38 rfl Tryf.underlying9 Tryf.underlying38 (.map none) (zero49 _) M nM f rfl ((HM.out.alloc _).alloc _) i rfl hs HF.out ?_)
  exact bodyPost_ret (v := .tuple #[.agg #[.map none, .string ⟨#[]⟩, .int .i32 0, .int .i32 0, .bool false], .bool false]) (by simp [results, Tryf.results19, go_sem]) rfl ⟨rfl, ((Below.refl _ _).alloc (Nat.le_refl _) _).alloc (by simp) _⟩
set_option maxHeartbeats 400000 in
theorem nil19 (b : Nat) (i r : ByteArray) (w : World) (c4 : w.cell? ⟨b, 4, none⟩ = some (.map none)) (hs : i.size ≤ maxLen) :
    Calls Tryf.prog 19 #[q0, .pointer (some ⟨b, 0, none⟩), .string i, .string r] w (Got (pkg none e0) false w) := by
  have hb : b < w.heap.size := by
    rcases Nat.lt_or_ge b w.heap.size with hlt | hge
    · exact hlt
    · rw [World.cell?, Array.getElem?_eq_none hge] at c4; cases c4
  have hl : ∀ W : World, (Instr.lookup 38 (.map none) (.string i) true).run Tryf.prog W = .ok (.tuple #[.map none, .bool false]) W := fun W => Maps.look_nil true (string_keyed Tryf.underlying9) Tryf.underlying38 (zero49 W) (WideMaps.keyOf_string_mk Tryf.underlying9 hs)
  unfold q0
  go_enter Tryf.func19, Tryf.ntmps19
  go_wp2
  exact bodyPost_ret (v := .tuple #[.agg #[.map none, .string ⟨#[]⟩, .int .i32 0, .int .i32 0, .bool false], .bool false]) (by simp [results, Tryf.results19, go_sem]) rfl ⟨rfl, ((Below.refl _ _).alloc (Nat.le_refl _) _).alloc (by simp) _⟩
set_option maxHeartbeats 400000 in
theorem miss19 (b M Q I nM nI : Nat) (f g : ByteArray → Option Value) (i r : ByteArray) (w : World) (h : Man w b M Q) (hm : MI w M nM f) (hf : f i = some (.map (some I))) (hi : MI w I nI g) (hg : g r = none) (hs : i.size ≤ maxLen) (hr : r.size ≤ maxLen) :
    Calls Tryf.prog 19 #[q0, .pointer (some ⟨b, 0, none⟩), .string i, .string r] w (Got (pkg none e0) false w) := by
  have c4 := h.reg
  have hb := h.lt
  have HM := Lib.hid hm; have HI := Lib.hid hi; have HF := Lib.hid hf; have HG := Lib.hid hg
  clear h hm hi hf hg
  unfold q0
  go_enter Tryf.func19, Tryf.ntmps19
  go_wp2_with (first | (at_lookup; refine wp_hit _ rfl _ _ 38 rfl Tryf.underlying9 Tryf.underlying38 (.map none) (zero49 _) M nM f rfl ((HM.out.alloc _).alloc _) i rfl hs _ HF.out ?_) | (at_lookup; refine wp_miss _ rfl _ _ 49 rfl Tryf.underlying9 Tryf.underlying49 (.agg #[.map none, .string ⟨#[]⟩, .int .i32 0, .int .i32 0, .bool false]) (zero55 _) I nI g rfl ((HI.out.alloc _).alloc _) r rfl hr HG.out ?_))
  exact bodyPost_ret (v := .tuple #[.agg #[.map none, .string ⟨#[]⟩, .int .i32 0, .int .i32 0, .bool false], .bool false]) (by simp [results, Tryf.results19, go_sem]) rfl ⟨rfl, (((Below.refl _ _).alloc (Nat.le_refl _) _).alloc (by simp) _).alloc (by simp; omega) _⟩
/-- ZZgetPackage out of getPackage, the dependencies' map nil or empty. -/
def Zg (loc : ByteArray) (ok : Bool) (w : World) (e : Ending) (w' : World) : Prop := e = .returned (.tuple #[.string loc, .int .i64 0, .bool ok]) ∧ Below w.heap.size w w'
theorem get10 (b : Nat) (i r loc : ByteArray) (d : Option Nat) (ok : Bool) (w : World) (hd : ∀ m, d = some m → ∃ f, MI w m 0 f)
    (hc : ∀ W, W = w → Calls Tryf.prog 19 #[q0, .pointer (some ⟨b, 0, none⟩), .string i, .string r] W (Got (pkg d loc) ok W)) :
    Calls Tryf.prog 10 #[.pointer (some ⟨b, 0, none⟩), .string i, .string r] w (Zg loc ok w) := by
  have HC := Lib.hid (hc w rfl)
  clear hc
  have HD := Lib.hid hd
  clear hd
  unfold q0 at HC
  go_enter Tryf.func10, Tryf.ntmps10
  go_wp2_with fail
  refine HC.out.mono ?_
  rintro e w1 ⟨rfl, h1⟩
  unfold pkg
  have hl : ∀ o : Obj, (Builtin.len_ #[39] 3 #[.map d]).run Tryf.prog (w1.alloc o) = .ok (.int .i64 0) (w1.alloc o) := fun o => by
    cases d with
    | none => exact Maps.len_nil Tryf.underlying39 3
    | some m =>
      obtain ⟨f, hf⟩ := HD.out m rfl
      exact ((hf.below h1 hf.lt).alloc o).len0 Tryf.underlying39 3
  go_wp2
  go_ret3
  exact ⟨rfl, h1.alloc h1.size _⟩
/-- One package: (a, r), at loc. -/
structure One (w : World) (b M Q I D : Nat) (a r loc : ByteArray) : Prop where
  man : Man w b M Q
  reg : MI w M 1 (upd (fun _ => none) a (.map (some I)))
  inn : MI w I 1 (upd (fun _ => none) r (pkg (some D) loc))
  dep : MI w D 0 (fun _ => none)
theorem One.later {w w' : World} {b M Q I D : Nat} {a r loc : ByteArray} (h : One w b M Q I D a r loc) (hB : Below w.heap.size w w') : One w' b M Q I D a r loc :=
  ⟨h.man.below hB h.man.lt, h.reg.below hB h.reg.lt, h.inn.below hB h.inn.lt, h.dep.below hB h.dep.lt⟩
theorem one_yes {w : World} {b M Q I D : Nat} {a r loc : ByteArray} (h : One w b M Q I D a r loc) (ha : a.size ≤ maxLen) (hr : r.size ≤ maxLen) :
    Calls Tryf.prog 10 #[.pointer (some ⟨b, 0, none⟩), .string a, .string r] w (Zg loc true w) :=
  get10 b a r loc (some D) true w (fun m hm => by cases hm; exact ⟨_, h.dep⟩) fun W hW => by
    subst hW
    exact hit19 b M Q I 1 1 _ _ a r loc (some D) W h.man h.reg (by simp [upd]) h.inn (by simp [upd]) ha hr
theorem one_no {w : World} {b M Q I D : Nat} {a r loc : ByteArray} (h : One w b M Q I D a r loc) (i x : ByteArray) (hi : i.size ≤ maxLen) (hx : x.size ≤ maxLen) (hne : ¬ (i = a ∧ x = r)) :
    Calls Tryf.prog 10 #[.pointer (some ⟨b, 0, none⟩), .string i, .string x] w (Zg ⟨#[]⟩ false w) :=
  get10 b i x ⟨#[]⟩ none false w (fun m hm => by cases hm) fun W hW => by
    subst hW
    by_cases hia : i = a
    · subst hia
      exact miss19 b M Q I 1 1 _ _ i x W h.man h.reg (by simp [upd]) h.inn (by simp [upd]; exact fun e => hne ⟨rfl, e⟩) hi hx
    · exact none19 b M Q 1 _ i x W h.man h.reg (by simp [upd, hia]) hi
theorem one_any {w : World} {b M Q I D : Nat} {a r loc : ByteArray} (h : One w b M Q I D a r loc) (i x : ByteArray) (hi : i.size ≤ maxLen) (hx : x.size ≤ maxLen) (ok : Bool) (hok : ok = true ↔ (i = a ∧ x = r)) :
    Calls Tryf.prog 10 #[.pointer (some ⟨b, 0, none⟩), .string i, .string x] w (Zg (if ok then loc else ⟨#[]⟩) ok w) := by
  cases ok
  · exact one_no h i x hi hx (fun e => by have := hok.2 e; cases this)
  · obtain ⟨rfl, rfl⟩ := hok.1 rfl
    exact one_yes h hi hx
def Emp (w : World) (e : Ending) (w' : World) : Prop := e = .returned (.pointer (some ⟨w.heap.size, 0, none⟩)) ∧ w'.cell? ⟨w.heap.size, 4, none⟩ = some (.map none) ∧ Below w.heap.size w w'
theorem emp11 (w : World) : Calls Tryf.prog 11 #[] w (Emp w) := by
  go_enter Tryf.func11, Tryf.ntmps11
  go_wp2
  go_ret
  exact ⟨rfl, by simp [go_sem], (Below.refl _ _).alloc (Nat.le_refl _) _⟩
theorem bytes5 (a b c : ByteArray) (w : World) (ha : a.size ≤ maxLen) (hb : b.size ≤ maxLen) (hc : c.size ≤ maxLen) :
    Calls Tryf.prog 5 #[.string a, .string b, .string c] w fun e w' => ∃ r, e = .returned (.bool r) ∧ (r = true → a.size + b.size + c.size ≤ 1048576) ∧ w = w' := by
  unfold maxLen at ha hb hc
  go_enter Tryf.func5, Tryf.ntmps5
  go_wp2
  all_goals go_ret
  all_goals first | exact ⟨false, rfl, (fun h => by cases h), rfl⟩ | exact ⟨true, rfl, (fun _ => by omega), rfl⟩
theorem one6 (a : ByteArray) (w : World) (ha : a.size ≤ 1048576) : Calls Tryf.prog 6 #[.string a] w fun e w' => e = .returned (.int .i64 a.size) ∧ w = w' := by
  have h : (a.size : Int) ≤ 1048576 := by omega
  go_enter Tryf.func6, Tryf.ntmps6
  go_wp2
  go_ret
  exact ⟨rfl, rfl⟩
end Go.Proofs.YtohhbnfbdeidbaaFmt.Pnp
