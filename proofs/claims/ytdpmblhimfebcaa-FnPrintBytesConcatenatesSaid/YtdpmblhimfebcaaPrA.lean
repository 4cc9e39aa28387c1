/- The printer by its contracts: a new printer, its output read, bytes printed. Conditions: lengths of at most 2^24. -/
import Derived.Test.YtdpmblhimfebcaaBts
import Derived.Laws.Tables
namespace Go.Proofs.Ytdpmblhimfebcaa.Pr
open Go.ChangeShapes Go.WideShapes Go.ChangeAt Go.RowKit Go.Deep Go.Proofs.Ytdpmblhimfebcaa.Base Go.Proofs.Ytdpmblhimfebcaa.Bts
set_option linter.unusedVariables false
theorem wpList_build {P : Program} (w : World) {ops : Array Oper} {rest : List Oper} {o : Oper} {a : Act} {Q : Exit → Act → World → Prop} (hg : o.guard = none) (t : TypeId) (parts : Array (Nat × Operand)) (ho : o.op = .build t parts)
    (vals : Array (Nat × Value)) (hv : (parts.map fun p => (p.1, a.eval p.2)) = vals) (cells : Array Value) (h : P.built t vals.toList = some cells) (hK : wpList P ops Q rest (a.put o.dst (.agg cells)) w) : wpList P ops Q (o :: rest) a w := by
  refine wpList_plain hg fun K hK' => ?_
  have hr := run_build (P := P) w t vals cells h
  rw [← hv] at hr
  unfold Oper.wp
  simp [execOp, ho, hr, Result.andThen]
  exact hK' _ _ hK
theorem built_ex (A : Option Addr) (n c : Nat) : ∃ oc cs, Try.prog.built 54 [(15, .bool false), (19, .bool false)] = some oc ∧ Try.prog.built 85 [(9, .slice A n c), (12, .agg oc)] = some cs ∧ cs[9]? = some (.slice A n c) :=
  ⟨(Try.prog.built 54 [(15, .bool false), (19, .bool false)]).getD #[], (Try.prog.built 85 [(9, .slice A n c), (12, .agg ((Try.prog.built 54 [(15, .bool false), (19, .bool false)]).getD #[]))]).getD #[], by kernel_rfl, by kernel_rfl, by kernel_rfl⟩
/-- A printer at block b whose output is the slice v. -/
def Prn (w : World) (b : Nat) (v : Value) : Prop := ∃ cs, w.heap[b]? = some (.cells cs 85 (0, 0)) ∧ cs[9]? = some v
theorem new_any (A : Option Addr) (n c : Nat) (w : World) :
    Calls Try.prog 12 #[.slice A n c, .bool false, .bool false] w fun e w' => e = .returned (.pointer (some ⟨w.heap.size, 0, none⟩)) ∧ Prn w' w.heap.size (.slice A n c) ∧ Below w.heap.size w w' := by
  obtain ⟨oc, cs, h1, h2, h3⟩ := built_ex A n c
  have P1 := Lib.hid h1
  have P2 := Lib.hid h2
  have P3 := Lib.hid h3
  clear h1 h2 h3
  go_enter Try.func12, Try.ntmps12
  go_wp2_with (first | (refine wpList_build _ (by rfl) 54 #[(15, .tmp 8), (19, .tmp 9)] (by rfl) #[(15, .bool false), (19, .bool false)] (by simp [go_sem]) oc P1.out ?_) | (refine wpList_build _ (by rfl) 85 #[(9, .tmp 7), (12, .tmp 10)] (by rfl) #[(9, .slice A n c), (12, .agg oc)] (by simp [go_sem]) cs P2.out ?_))
  go_ret
  exact ⟨rfl, ⟨cs, heap_alloc_new w _, P3.out⟩, (Below.refl _ _).alloc (Nat.le_refl _) _⟩
theorem Prn.cell {w : World} {b : Nat} {v : Value} (h : Prn w b v) : w.cell? ⟨b, 9, none⟩ = some v := by
  obtain ⟨cs, hb, hc⟩ := h
  simp [World.cell?, hb, hc]
theorem Prn.free {w : World} {b : Nat} {v : Value} (h : Prn w b v) : w.frozen? ⟨b, 9, none⟩ = false := by
  obtain ⟨cs, hb, hc⟩ := h
  simp [World.frozen?, hb]
theorem Prn.lt {w : World} {b : Nat} {v : Value} (h : Prn w b v) : b < w.heap.size := by
  obtain ⟨cs, hb, hc⟩ := h
  exact lt_of_block hb
theorem Prn.of_block {w w' : World} {b : Nat} {v : Value} (h : Prn w b v) (e : w'.heap[b]? = w.heap[b]?) : Prn w' b v := by
  obtain ⟨cs, hb, hc⟩ := h
  exact ⟨cs, e.trans hb, hc⟩
theorem Prn.set {w : World} {b : Nat} {v : Value} (h : Prn w b v) (u : Value) : Prn (w.setCell ⟨b, 9, none⟩ u) b u := by
  obtain ⟨cs, hb, hc⟩ := h
  refine ⟨cs.setIfInBounds 9 u, ?_, ?_⟩
  · simp [World.setCell, Array.getElem?_modify, hb]
  · have : 9 < cs.size := (Array.getElem?_eq_some_iff.1 hc).1
    simp [this]
theorem own_ne {w : World} {b base : Nat} {v u : Value} {l : List UInt8} (h : Prn w b v) (ho : Own w base u l) : u.ownBlock ≠ some b := by
  rcases ho.2 with ⟨rfl, _⟩ | ⟨g, cap, cur, rfl, _, hh, _⟩
  · simp [Value.ownBlock]
  · intro he
    have : g = b := by simpa [Value.ownBlock] using he
    subst this
    obtain ⟨cs, hb, hc⟩ := h
    rw [hh] at hb
    injection hb with hb
    injection hb with _ ht
    exact absurd ht (by decide)
/-- Nothing has turned but the row, block b and what is new. -/
structure Two (row : Option Nat) (b : Nat) (w w' : World) : Prop where
  os : w'.os = w.os
  tape : w'.tape = w.tape
  output : w'.output = w.output
  size : w.heap.size ≤ w'.heap.size
  block : ∀ k, k < w.heap.size → some k ≠ row → k ≠ b → w'.heap[k]? = w.heap[k]?
theorem Two.below {row : Option Nat} {b B : Nat} {w w' : World} (h : Two row b w w') (hB : B ≤ w.heap.size) (hr : ∀ g, row = some g → B ≤ g) (hb : B ≤ b) : Below B w w' :=
  ⟨h.os, h.tape, h.output, h.size, fun k hk => h.block k (by omega) (fun e => by have := hr k e.symm; omega) (by omega)⟩
theorem Two.own {row : Option Nat} {b base : Nat} {w w' : World} {v : Value} {l : List UInt8} (h : Two row b w w') (ho : Own w base v l) (h1 : v.ownBlock = none ∨ v.ownBlock ≠ row) (h2 : v.ownBlock ≠ some b) : Own w' base v l := by
  obtain ⟨hx, ⟨rfl, h0⟩ | ⟨g, cap, cur, rfl, hb, hh, hr⟩⟩ := ho
  · exact ⟨hx, .inl ⟨rfl, h0⟩⟩
  · refine ⟨hx, .inr ⟨g, cap, cur, rfl, hb, (h.block g (lt_of_block hh) ?_ ?_).trans hh, hr⟩⟩
    · rcases h1 with h1 | h1
      · simp [Value.ownBlock] at h1
      · exact h1
    · intro e; subst e; exact h2 rfl
/-- What printBytes leaves. -/
def Printed (b base : Nat) (A : Option Addr) (n c m : Nat) (l : List UInt8) (w w' : World) : Prop :=
  ∃ A' c', Prn w' b (.slice A' (n + m) c') ∧ Own w' base (.slice A' (n + m) c') l ∧ Two (Value.slice A n c).ownBlock b w w' ∧ ((Value.slice A' (n + m) c').ownBlock = (Value.slice A n c).ownBlock ∨ (Value.slice A' (n + m) c').ownBlock = some w.heap.size)
theorem pb_any (b base B : Nat) (A C : Option Addr) (n m c d : Nat) (l k : List UInt8) (w : World) (hl : l.length = n) (hm : k.length = m) (hn : n + m ≤ 16777216) (hp : Prn w b (.slice A n c)) (ho : Own w base (.slice A n c) l) (hb : base ≤ w.heap.size) (hr : Rd w B C k) :
    Calls Try.prog 17 #[.pointer (some ⟨b, 0, none⟩), .slice C m d] w fun e w' => e = .returned (.tuple #[]) ∧ Printed b base A n c m (l ++ k) w w' := by
  have c9 := hp.cell
  have HL := Lib.hid hl; have HM := Lib.hid hm; have HP := Lib.hid hp; have HO := Lib.hid ho; have HRd := Lib.hid hr
  clear hl hm hp ho hr
  go_enter Try.func17, Try.ntmps17
  go_wp2_with (at_builtin; refine append_any _ rfl (.tmp 8) (.tmp 9) 28 rfl base Try.underlying28 infoE (.slice A n c) l rfl HO.out B C m d k HM.out rfl HRd.out ?c1 hb ?c2)
  case c1 => rw [HL.out]; omega
  case c2 =>
    intro v' w1 hown1 hg1 hat1
    obtain ⟨A2, c2, hv2⟩ := hown1.form
    have e2 : (l ++ k).length = n + m := by rw [List.length_append, HL.out, HM.out]
    rw [e2] at hv2
    subst hv2
    have hne : some b ≠ (Value.slice A n c).ownBlock := fun e => own_ne HP.out HO.out e.symm
    have hp1 : Prn w1 b (.slice A n c) := HP.out.of_block (hg1.block b HP.out.lt hne)
    have d9 := hp1.cell
    have f9 := hp1.free
    have P2 := Lib.hid (hp1.set (.slice A2 (n + m) c2))
    have O2 := Lib.hid (hown1.set (a := ⟨b, 9, none⟩) (u := .slice A2 (n + m) c2) (own_ne hp1 hown1))
    have T2 : Hid (Two (Value.slice A n c).ownBlock b w (w1.setCell ⟨b, 9, none⟩ (.slice A2 (n + m) c2))) := Lib.hid ⟨hg1.os, hg1.tape, hg1.output, by simpa using hg1.size, fun i hi h1 h2 => (Below.heap_setCell w1 ⟨b, 9, none⟩ _ i h2).trans (hg1.block i hi h1)⟩
    have A3 := Lib.hid hat1
    clear hg1 hown1 hat1 hne e2 hp1
    go_wp2
    go_end0
    exact ⟨rfl, A2, c2, P2.out, O2.out, T2.out, A3.out⟩
theorem print_any (b base B : Nat) (A C : Option Addr) (n m c d : Nat) (l k : List UInt8) (w : World) (hl : l.length = n) (hm : k.length = m) (hn : n + m ≤ 16777216) (hp : Prn w b (.slice A n c)) (ho : Own w base (.slice A n c) l) (hb : base ≤ w.heap.size) (hr : Rd w B C k) :
    Calls Try.prog 13 #[.pointer (some ⟨b, 0, none⟩), .slice C m d] w fun e w' => e = .returned (.tuple #[]) ∧ Printed b base A n c m (l ++ k) w w' := by
  have H := Lib.hid (pb_any b base B A C n m c d l k w hl hm hn hp ho hb hr)
  generalize Printed b base A n c m (l ++ k) w = Q at H ⊢
  clear hl hm hp ho hr
  go_enter Try.func13, Try.ntmps13
  go_wp2_with fail
  refine H.out.mono ?_
  rintro e w' ⟨rfl, hq⟩
  go_wp2
  go_end0
  exact ⟨rfl, hq⟩
theorem js_any (b : Nat) (A : Option Addr) (n c : Nat) (w : World) (hp : Prn w b (.slice A n c)) : Calls Try.prog 14 #[.pointer (some ⟨b, 0, none⟩)] w fun e w' => e = .returned (.slice A n c) ∧ w = w' := by
  have c9 := hp.cell
  clear hp
  go_enter Try.func14, Try.ntmps14
  go_wp2
  go_ret
  exact ⟨rfl, rfl⟩
/-- What zzClone leaves. -/
def Cloned (n : Nat) (l : List UInt8) (w : World) (e : Ending) (w' : World) : Prop := ∃ A' c', e = .returned (.slice A' n c') ∧ Own w' w.heap.size (.slice A' n c') l ∧ Below w.heap.size w w'
theorem clone_any (A : Option Addr) (n c : Nat) (l : List UInt8) (w : World) (hl : l.length = n) (hn : n ≤ 16777216) (hnil : A = none → n = 0 ∧ c = 0) (hr : Rd w w.heap.size A l) : Calls Try.prog 10 #[.slice A n c] w (Cloned n l w) := by
  rcases A with _ | x
  · obtain ⟨rfl, rfl⟩ := hnil rfl
    obtain rfl : l = [] := List.eq_nil_of_length_eq_zero hl
    refine (clone_nil w).mono ?_
    rintro e w' ⟨rfl, rfl⟩
    exact ⟨none, 0, rfl, Own.nil _ _, Below.refl _ _⟩
  · refine (clone_some x n c l w hl hn hr).mono ?_
    rintro e w' ⟨rfl, h1, h2⟩
    exact ⟨_, _, rfl, h1, h2⟩
end Go.Proofs.Ytdpmblhimfebcaa.Pr
