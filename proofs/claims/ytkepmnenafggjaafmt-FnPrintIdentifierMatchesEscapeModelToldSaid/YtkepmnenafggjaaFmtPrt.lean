/- The printer by its contracts: a new one, its output read, an identifier printed. Conditions: lengths of at most 2^20. -/
import Derived.Test.YtkepmnenafggjaaFmtQuo
import Derived.Laws.Tables
import Derived.Deep.RegionWith
namespace Go.Proofs.YtkepmnenafggjaaFmt.Prt
open Go.RowKit Go.Deep Go.Proofs.YtkepmnenafggjaaFmt.Base Go.Proofs.YtkepmnenafggjaaFmt.Sls Go.Proofs.YtkepmnenafggjaaFmt.Byw Go.Proofs.YtkepmnenafggjaaFmt.Dec Go.Proofs.YtkepmnenafggjaaFmt.Esc Go.Proofs.YtkepmnenafggjaaFmt.EscB Go.Proofs.YtkepmnenafggjaaFmt.Quo
set_option linter.unusedVariables false
theorem wpList_build {P : Program} (w : World) {ops : Array Oper} {rest : List Oper} {o : Oper} {a : Act} {Q : Exit → Act → World → Prop} (hg : o.guard = none) (t : TypeId) (parts : Array (Nat × Operand)) (ho : o.op = .build t parts)
    (vals : Array (Nat × Value)) (hv : (parts.map fun p => (p.1, a.eval p.2)) = vals) (cells : Array Value) (h : P.built t vals.toList = some cells) (hK : wpList P ops Q rest (a.put o.dst (.agg cells)) w) : wpList P ops Q (o :: rest) a w := by
  refine wpList_plain hg fun K hK' => ?_
  have hr := run_build (P := P) w t vals cells h
  rw [← hv] at hr
  unfold Oper.wp
  simp [execOp, ho, hr, Result.andThen]
  exact hK' _ _ hK
def m1 : Value := .int .i64 (-1)
def partsP (o : Array Value) (A : Option Addr) (n c p q : Nat) : List (Nat × Value) := [(12, .agg o), (9, .slice A n c), (19, .int .i64 0), (5, .map (some p)), (6, .map (some q)), (15, m1), (16, m1), (17, m1), (18, m1), (20, m1), (21, m1), (22, m1), (23, m1)]
theorem built_ex (a : Bool) (A : Option Addr) (n c p q : Nat) : ∃ oc cs, Tryf.prog.built 54 [(16, .bool a), (13, .bool false), (15, .bool false)] = some oc ∧ Tryf.prog.built 85 (partsP oc A n c p q) = some cs ∧ cs[9]? = some (.slice A n c) ∧ cs[31]? = some (.bool a) ∧ cs[24]? = some (.int .u64 0) :=
  ⟨(Tryf.prog.built 54 [(16, .bool a), (13, .bool false), (15, .bool false)]).getD #[], (Tryf.prog.built 85 (partsP ((Tryf.prog.built 54 [(16, .bool a), (13, .bool false), (15, .bool false)]).getD #[]) A n c p q)).getD #[], by kernel_rfl, by kernel_rfl, by kernel_rfl, by kernel_rfl, by kernel_rfl⟩
/-- A printer at block b whose output is the slice v. -/
def Prn (w : World) (b : Nat) (a : Bool) (v : Value) : Prop := ∃ cs, w.heap[b]? = some (.cells cs 85 (0, 0)) ∧ cs[9]? = some v ∧ cs[31]? = some (.bool a) ∧ cs[24]? = some (.int .u64 0)
set_option maxRecDepth 20000 in
theorem new10 (a : Bool) (A : Option Addr) (n c : Nat) (w : World) :
    Calls Tryf.prog 10 #[.bool a, .bool false, .bool false, .int .i64 0, .slice A n c] w fun e w' => e = .returned (.pointer (some ⟨w.heap.size + 2, 0, none⟩)) ∧ Prn w' (w.heap.size + 2) a (.slice A n c) ∧ Below w.heap.size w w' := by
  have hmm := @run_makeMap Tryf.prog
  obtain ⟨oc, cs, h1, h2, h3, h4, h5⟩ := built_ex a A n c w.heap.size (w.heap.size + 1)
  have P1 := Lib.hid h1
  have P2 := Lib.hid h2
  have P3 := Lib.hid h3; have P4 := Lib.hid h4; have P5 := Lib.hid h5
  clear h1 h2 h3 h4 h5
  go_enter Tryf.func10, Tryf.ntmps10
  go_wp2_with (first | (refine wpList_build _ (by rfl) 54 #[(16, .tmp 11), (13, .tmp 12), (15, .tmp 13)] (by rfl) #[(16, .bool a), (13, .bool false), (15, .bool false)] (by simp [go_sem]) oc P1.out ?_) | (refine wpList_build _ (by rfl) 85 #[(12, .tmp 14), (9, .tmp 15), (19, .tmp 16), (5, .tmp 17), (6, .tmp 18), (15, .const m1), (16, .const m1), (17, .const m1), (18, .const m1), (20, .const m1), (21, .const m1), (22, .const m1), (23, .const m1)] (by rfl) #[(12, .agg oc), (9, .slice A n c), (19, .int .i64 0), (5, .map (some w.heap.size)), (6, .map (some (w.heap.size + 1))), (15, m1), (16, m1), (17, m1), (18, m1), (20, m1), (21, m1), (22, m1), (23, m1)] (by simp [go_sem, m1]) cs P2.out ?_))
  go_ret
  have s2 : ((w.alloc (Obj.map #[] 0)).alloc (Obj.map #[] 0)).heap.size = w.heap.size + 2 := by simp
  have hh := heap_alloc_new ((w.alloc (Obj.map #[] 0)).alloc (Obj.map #[] 0))
  rw [s2] at hh
  exact ⟨rfl, ⟨cs, hh _, P3.out, P4.out, P5.out⟩, (((Below.refl _ _).alloc (Nat.le_refl _) _).alloc (by simp) _).alloc (by simp; omega) _⟩
section
variable {w w' : World} {b : Nat} {a : Bool} {v : Value}
theorem Prn.cell (h : Prn w b a v) : w.cell? ⟨b, 9, none⟩ = some v := by
  obtain ⟨cs, hb, hc, _⟩ := h
  simp [World.cell?, hb, hc]
theorem Prn.asc (h : Prn w b a v) : w.cell? ⟨b, 31, none⟩ = some (.bool a) := by
  obtain ⟨cs, hb, _, hc, _⟩ := h
  simp [World.cell?, hb, hc]
theorem Prn.uf (h : Prn w b a v) : w.cell? ⟨b, 24, none⟩ = some (.int .u64 0) := by
  obtain ⟨cs, hb, _, _, hc⟩ := h
  simp [World.cell?, hb, hc]
theorem Prn.free (h : Prn w b a v) : w.frozen? ⟨b, 9, none⟩ = false := by
  obtain ⟨cs, hb, hc⟩ := h
  simp [World.frozen?, hb]
theorem Prn.lt (h : Prn w b a v) : b < w.heap.size := by
  obtain ⟨cs, hb, hc⟩ := h
  exact lt_of_block hb
theorem Prn.of_block (h : Prn w b a v) (e : w'.heap[b]? = w.heap[b]?) : Prn w' b a v := by
  obtain ⟨cs, hb, hc⟩ := h
  exact ⟨cs, e.trans hb, hc⟩
theorem Prn.set (h : Prn w b a v) (u : Value) : Prn (w.setCell ⟨b, 9, none⟩ u) b a u := by
  obtain ⟨cs, hb, hc, h1, h2⟩ := h
  refine ⟨cs.setIfInBounds 9 u, ?_, ?_, ?_, ?_⟩
  · simp [World.setCell, Array.getElem?_modify, hb]
  · have : 9 < cs.size := (Array.getElem?_eq_some_iff.1 hc).1
    simp [this]
  · rw [Array.getElem?_setIfInBounds_ne (by decide)]; exact h1
  · rw [Array.getElem?_setIfInBounds_ne (by decide)]; exact h2
end
theorem own_ne {w : World} {b base : Nat} {a : Bool} {v u : Value} {xs : List Value} (h : Prn w b a v) (ho : Own w base 5 u xs) : u.ownBlock ≠ some b := by
  rcases ho.2 with ⟨rfl, _⟩ | ⟨g, cap, cur, rfl, _, hh, _⟩
  · simp [Value.ownBlock]
  · intro he
    have : g = b := by simpa [Value.ownBlock] using he
    subst this
    obtain ⟨cs, hb, hc⟩ := h
    rw [hh] at hb
    injection hb with hb
    injection hb with _ ht
    exact absurd ht (by decide)
/-- Nothing has turned but the row, block b and what is new. -/
structure Two (row : Option Nat) (b : Nat) (w w' : World) : Prop where
  os : w'.os = w.os
  tape : w'.tape = w.tape
  output : w'.output = w.output
  size : w.heap.size ≤ w'.heap.size
  block : ∀ k, k < w.heap.size → some k ≠ row → k ≠ b → w'.heap[k]? = w.heap[k]?
theorem Two.below {row : Option Nat} {b B : Nat} {w w' : World} (h : Two row b w w') (hB : B ≤ w.heap.size) (hr : ∀ g, row = some g → B ≤ g) (hb : B ≤ b) : Below B w w' :=
  ⟨h.os, h.tape, h.output, h.size, fun k hk => h.block k (by omega) (fun e => by have := hr k e.symm; omega) (by omega)⟩
theorem Two.own {row : Option Nat} {b base : Nat} {w w' : World} {v : Value} {l : List Value} (h : Two row b w w') (ho : Own w base 5 v l) (h1 : v.ownBlock = none ∨ v.ownBlock ≠ row) (h2 : v.ownBlock ≠ some b) : Own w' base 5 v l := by
  obtain ⟨hx, ⟨rfl, h0⟩ | ⟨g, cap, cur, rfl, hb, hh, hr⟩⟩ := ho
  · exact ⟨hx, .inl ⟨rfl, h0⟩⟩
  · refine ⟨hx, .inr ⟨g, cap, cur, rfl, hb, (h.block g (lt_of_block hh) ?_ ?_).trans hh, hr⟩⟩
    · rcases h1 with h1 | h1
      · simp [Value.ownBlock] at h1
      · exact h1
    · intro e; subst e; exact h2 rfl
/-- What a print leaves. -/
def Pd (b : Nat) (a : Bool) (r : Option Nat) (base : Nat) (L : List UInt8) (w : World) (e : Ending) (w' : World) : Prop :=
  ∃ A' n' c', e = .returned (.tuple #[]) ∧ Prn w' b a (.slice A' n' c') ∧ n' = L.length ∧ Own w' base 5 (.slice A' n' c') (bv L) ∧ Two r b w w'
theorem Pd_of {b : Nat} {a : Bool} {r : Option Nat} {base n c n' c' : Nat} {A A' : Option Addr} {l L : List UInt8} {w w1 : World} (hp : Prn w b a (.slice A n c)) (ho : Own w base 5 (.slice A n c) (bv l)) (hr : r = (Value.slice A n c).ownBlock) (h : Sl w w1 r base A' n' c' L) :
    Prn w1 b a (.slice A n c) ∧ Pd b a r base L w (.returned (.tuple #[])) (w1.setCell ⟨b, 9, none⟩ (.slice A' n' c')) := by
  have hne : some b ≠ r := fun e => own_ne hp ho (by rw [← hr]; exact e.symm)
  have hp1 : Prn w1 b a (.slice A n c) := hp.of_block (h.grown.block b hp.lt hne)
  refine ⟨hp1, A', n', c', rfl, hp1.set _, h.len, h.own.set (own_ne hp1 h.own), ⟨h.grown.os, h.grown.tape, h.grown.output, by simpa using h.grown.size, fun i hi h1 h2 => (Below.heap_setCell w1 ⟨b, 9, none⟩ _ i h2).trans (h.grown.block i hi h1)⟩⟩
theorem print18 (b base n c : Nat) (a : Bool) (A : Option Addr) (l : List UInt8) (s : ByteArray) (w : World) (hn : l.length + s.size ≤ 16777216) (hl : n = l.length) (hp : Prn w b a (.slice A n c)) (ho : Own w base 5 (.slice A n c) (bv l)) (hb : base ≤ w.heap.size) :
    Calls Tryf.prog 18 #[.pointer (some ⟨b, 0, none⟩), .string s] w (Pd b a (Value.slice A n c).ownBlock base (l ++ s.data.toList) w) := by
  have c9 := hp.cell
  have hbw := hp.lt
  obtain ⟨r, hr⟩ : ∃ r, r = (Value.slice A n c).ownBlock := ⟨_, rfl⟩
  have S0 : Hid (Sl w w r base A n c l) := Lib.hid (by rw [hr]; exact Sl.start ho hl)
  have HP := Lib.hid hp; have HO := Lib.hid ho; have HR := Lib.hid hr
  rw [← hr]
  clear hp ho hr hl
  go_enter Tryf.func18, Tryf.ntmps18
  go_wp2_with (at_builtin; refine wp_append_str _ rfl (.tmp 8) (.tmp 9) 22 9 5 rfl Tryf.underlying22 Tryf.underlying9 infoB (.slice A n c) l base rfl S0.out.own s rfl (by omega) hb ?_; intro v1 w1 o1 g1 loc1; obtain ⟨A2, n2, c2, rfl, S2⟩ := S0.out.nextStr g1 o1 loc1; obtain ⟨hp1, hd⟩ := Pd_of HP.out HO.out HR.out S2; have d9 := hp1.cell; have f9 := hp1.free; have hz1 := hp1.lt; have HD := Lib.hid hd; clear o1 g1 loc1 S2 hp1 hd)
  go_end0
  exact HD.out
theorem Pd.of_drew {b : Nat} {a : Bool} {r : Option Nat} {base : Nat} {L : List UInt8} {w : World} {e : Ending} {w' : World} (h : Pd b a r base L w.drew e w') : Pd b a r base L w e w' := by
  obtain ⟨A', n', c', h1, h2, h3, h4, h5⟩ := h
  exact ⟨A', n', c', h1, h2, h3, h4, ⟨h5.os, h5.tape, h5.output, h5.size, h5.block⟩⟩
theorem Pd.ends {b : Nat} {a : Bool} {r : Option Nat} {base : Nat} {L : List UInt8} {w : World} {e : Ending} {w' : World} (h : Pd b a r base L w e w') : e = .returned (.tuple #[]) ∧ Pd b a r base L w e w' := by
  obtain ⟨A', n', c', h1, h2⟩ := h
  exact ⟨h1, A', n', c', h1, h2⟩
set_option maxHeartbeats 1000000 in
theorem pid16 (b base n c : Nat) (a : Bool) (A : Option Addr) (l : List UInt8) (s : ByteArray) (w : World) (hn : n ≤ 1048576) (hs : s.size ≤ 1048576) (hl : n = l.length) (hp : Prn w b a (.slice A n c)) (ho : Own w base 5 (.slice A n c) (bv l)) (hb : base ≤ w.heap.size) (hbm : a = true → Bmp s) :
    Calls Tryf.prog 16 #[.pointer (some ⟨b, 0, none⟩), .string s] w (Pd b a (Value.slice A n c).ownBlock base (l ++ (if a then esc s else s.data.toList)) w) := by
  have c9 := hp.cell
  have ca := hp.asc
  have cu := hp.uf
  have hbw := hp.lt
  cases a
  · have C := Lib.hid ((print18 b base n c false A l s w (by omega) hl hp ho hb).mono (fun e w' h => h.ends))
    simp only [if_neg Bool.false_ne_true]
    generalize Pd b false (Value.slice A n c).ownBlock base (l ++ s.data.toList) w = Q at C ⊢
    clear hp ho hbm
    go_enter Tryf.func16, Tryf.ntmps16
    go_wp2_with fail
    refine C.out.mono ?_
    rintro e w' ⟨rfl, hq⟩
    go_wp2
    go_end0
    exact hq
  · have hpd : Prn w.drew b true (.slice A n c) := hp.of_block rfl
    have hod : Own w.drew base 5 (.slice A n c) (bv l) := World.ownsRow.drew ho
    have C := Lib.hid (quote17 A n c base l s 0 w.drew hs hl hn hod hb (hbm rfl))
    have HP := Lib.hid hpd; have HO := Lib.hid hod
    simp only [if_true]
    clear hp ho hbm hpd hod hl
    go_enter Tryf.func16, Tryf.ntmps16
    go_wp2
    go_region_with ((go_at_call 17; refine C.out.mono ?_; rintro e w1 ⟨A2, n2, c2, rfl, S2⟩; obtain ⟨hp1, hd⟩ := Pd_of HP.out HO.out rfl S2; have d9 := hp1.cell; have f9 := hp1.free; have hz1 := hp1.lt; have HD := Lib.hid hd.of_drew; clear S2 hp1 hd))
    all_goals
      go_end0
      exact HD.out
theorem pid11 (b base n c : Nat) (a : Bool) (A : Option Addr) (l : List UInt8) (s : ByteArray) (w : World) (hn : n ≤ 1048576) (hs : s.size ≤ 1048576) (hl : n = l.length) (hp : Prn w b a (.slice A n c)) (ho : Own w base 5 (.slice A n c) (bv l)) (hb : base ≤ w.heap.size) (hbm : a = true → Bmp s) :
    Calls Tryf.prog 11 #[.pointer (some ⟨b, 0, none⟩), .string s] w (Pd b a (Value.slice A n c).ownBlock base (l ++ (if a then esc s else s.data.toList)) w) := by
  have C := Lib.hid ((pid16 b base n c a A l s w hn hs hl hp ho hb hbm).mono (fun e w' h => h.ends))
  generalize Pd b a (Value.slice A n c).ownBlock base (l ++ (if a then esc s else s.data.toList)) w = Q at C ⊢
  clear hp ho hbm
  go_enter Tryf.func11, Tryf.ntmps11
  go_wp2_with fail
  refine C.out.mono ?_
  rintro e w' ⟨rfl, hq⟩
  go_wp2
  go_end0
  exact hq
theorem js13 (b n c : Nat) (a : Bool) (A : Option Addr) (w : World) (hp : Prn w b a (.slice A n c)) : Calls Tryf.prog 13 #[.pointer (some ⟨b, 0, none⟩)] w fun e w' => e = .returned (.slice A n c) ∧ w = w' := by
  have c9 := hp.cell
  clear hp
  go_enter Tryf.func13, Tryf.ntmps13
  go_wp2
  go_ret
  exact ⟨rfl, rfl⟩
end Go.Proofs.YtkepmnenafggjaaFmt.Prt
