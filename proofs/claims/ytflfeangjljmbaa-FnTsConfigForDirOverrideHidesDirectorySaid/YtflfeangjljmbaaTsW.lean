/- The walk of the law FnTsConfigForDirOverrideHidesDirectory: it returns true for every input. No condition. -/
import Derived.Test.YtflfeangjljmbaaBase
import Derived.Test.YtflfeangjljmbaaProg
import Derived.Laws.Tables
import Derived.LaidEqlPtr
import Derived.Laws.Rows
import Derived.Below
namespace Go.Proofs.Ytflfeangjljmbaa.fnTsConfigForDirOverrideHidesDirectory
open Go.ChangeShapes Go.WideShapes Go.RowKit Go.Proofs.Ytflfeangjljmbaa.Base
set_option linter.unusedVariables false
theorem wpList_build {P : Program} (w : World) {ops : Array Oper} {rest : List Oper} {o : Oper} {a : Act} {Q : Exit → Act → World → Prop} (hg : o.guard = none) (t : TypeId) (parts : Array (Nat × Operand)) (ho : o.op = .build t parts)
    (vals : Array (Nat × Value)) (hv : (parts.map fun p => (p.1, a.eval p.2)) = vals) (cells : Array Value) (h : P.built t vals.toList = some cells) (hK : wpList P ops Q rest (a.put o.dst (.agg cells)) w) : wpList P ops Q (o :: rest) a w := by
  refine wpList_plain hg fun K hK' => ?_
  have hr := run_build (P := P) w t vals cells h
  rw [← hv] at hr
  unfold Oper.wp
  simp [execOp, ho, hr, Result.andThen]
  exact hK' _ _ hK
theorem built_res (o : Option Addr) : ∃ cs, Try.prog.built 121 [(3, .pointer o)] = some cs ∧ cs[8]? = some (.pointer o) :=
  ⟨(Try.prog.built 121 [(3, .pointer o)]).getD #[], by kernel_rfl, by kernel_rfl⟩
theorem built_dir (b : Bool) (e : Option Addr) : ∃ cs, Try.prog.built 135 [(11, .bool b), (7, .pointer e)] = some cs ∧ cs[13]? = some (.bool b) ∧ cs[9]? = some (.pointer e) :=
  ⟨(Try.prog.built 135 [(11, .bool b), (7, .pointer e)]).getD #[], by kernel_rfl, by kernel_rfl, by kernel_rfl⟩
theorem built_cfg (s : ByteArray) : ∃ cs, Try.prog.built 53 [(0, .string s)] = some cs :=
  ⟨(Try.prog.built 53 [(0, .string s)]).getD #[], by kernel_rfl⟩
def res (ins : Bool) (o e : Option Addr) : Option Addr := if ins then none else if o.isSome then o else e
def Ret (p : Option Addr) (w : World) (e : Ending) (w' : World) : Prop := e = .returned (.pointer p) ∧ Below w.heap.size w w'
set_option maxHeartbeats 400000 in
theorem dir6 (R D : Nat) (o e : Option Addr) (ins : Bool) (w : World) (c1 : w.cell? ⟨D, 13, none⟩ = some (.bool ins)) (c2 : w.cell? ⟨D, 9, none⟩ = some (.pointer e)) (c3 : w.cell? ⟨R, 8, none⟩ = some (.pointer o)) :
    Calls Try.prog 6 #[.agg #[.pointer (some ⟨R, 0, none⟩), .pointer none, .pointer none, .int .u8 0], .pointer (some ⟨D, 0, none⟩)] w (Ret (res ins o e) w) := by
  have hD := (show D < w.heap.size from by
    rcases Nat.lt_or_ge D w.heap.size with hlt | hge
    · exact hlt
    · rw [World.cell?, Array.getElem?_eq_none hge] at c1; cases c1)
  have hR := (show R < w.heap.size from by
    rcases Nat.lt_or_ge R w.heap.size with hlt | hge
    · exact hlt
    · rw [World.cell?, Array.getElem?_eq_none hge] at c3; cases c3)
  cases ins
  · cases o with
    | none =>
      go_enter Try.func6, Try.ntmps6
      go_wp2
      go_ret
      exact ⟨rfl, (Below.refl _ _).alloc (Nat.le_refl _) _⟩
    | some x =>
      go_enter Try.func6, Try.ntmps6
      go_wp2
      go_ret
      exact ⟨rfl, (Below.refl _ _).alloc (Nat.le_refl _) _⟩
  · go_enter Try.func6, Try.ntmps6
    go_wp2
    go_ret
    exact ⟨rfl, (Below.refl _ _).alloc (Nat.le_refl _) _⟩
theorem rows8 {w : World} {b t : Nat} {cs : Array Value} {i : Nat} {v : Value} (hb : w.heap[b]? = some (.cells cs t (0, 0))) (hc : cs[i]? = some v) : w.cell? ⟨b, i, none⟩ = some v := by
  simp [World.cell?, hb, hc]
set_option maxHeartbeats 400000 in
theorem new5 (o e : Option Addr) (ins : Bool) (w : World) : Calls Try.prog 5 #[.pointer o, .bool ins, .pointer e] w (Ret (res ins o e) w) := by
  obtain ⟨cr, r1, r2⟩ := built_res o
  obtain ⟨cd, d1, d2, d3⟩ := built_dir ins e
  have R1 := Lib.hid r1; have R2 := Lib.hid r2; have D1 := Lib.hid d1; have D2 := Lib.hid d2; have D3 := Lib.hid d3
  clear r1 r2 d1 d2 d3
  go_enter Try.func5, Try.ntmps5
  go_wp2_with (first | (refine wpList_build _ (by rfl) 121 #[(3, .tmp 8)] (by rfl) #[(3, .pointer o)] (by simp [go_sem]) cr R1.out ?_) | (refine wpList_build _ (by rfl) 135 #[(11, .tmp 13), (7, .tmp 14)] (by rfl) #[(11, .bool ins), (7, .pointer e)] (by simp [go_sem]) cd D1.out ?_) | fail)
  refine (dir6 w.heap.size (w.heap.size + 1 + 1) o e ins _ (by simp [go_sem, D2.out]) (by simp [go_sem, D3.out]) (by simp [go_sem, R2.out])).mono ?_
  rintro e' w1 ⟨rfl, hb⟩
  go_wp2
  go_ret
  refine ⟨rfl, ?_⟩
  exact ((((Below.refl _ _).alloc (Nat.le_refl _) _).alloc (by simp) _).alloc (by simp; omega) _).trans (hb.mono (by simp; omega))
theorem new5' (o e p : Option Addr) (ins : Bool) (h : res ins o e = p) (w : World) : Calls Try.prog 5 #[.pointer o, .bool ins, .pointer e] w (Ret p w) := h ▸ new5 o e ins w
/-- If it says yes, the strings are short together. -/
theorem bytes4 (x : Value) (a b c : ByteArray) (w : World) (ha : a.size ≤ maxLen) (hb : b.size ≤ maxLen) (hc : c.size ≤ maxLen) :
    Calls Try.prog 4 #[x, .string a, .string b, .string c] w fun e w' => ∃ r, e = .returned (.bool r) ∧ (r = true → a.size + b.size + c.size ≤ 1048576) ∧ w = w' := by
  unfold maxLen at ha hb hc
  go_enter Try.func4, Try.ntmps4
  go_wp2
  all_goals go_ret
  all_goals first | exact ⟨false, rfl, (fun h => by cases h), rfl⟩ | exact ⟨true, rfl, (fun _ => by omega), rfl⟩
theorem eq_ptr (t te : TypeId) (ht : Try.prog.underlying t = some (.pointer te)) (h : (Try.prog.info? te).isSome = true) (p : Option Addr) (w : World) : (binOp .eql t (.pointer p) (.pointer p)).run Try.prog w = .ok (.bool true) w := by
  obtain ⟨j, hj⟩ := Option.isSome_iff_exists.1 h
  have hd : ∀ d : Nat, (Op.equalIn (d + 1) t (.pointer p) (.pointer p)).run Try.prog w = .ok true w := fun d => by
    cases p <;> simp [Op.equalIn, run_underlying ht, sizeOf, typeInfo, hj, run_sameAddr_same]
  simp only [binOp]
  simp [Op.equal, Op.maxDepth, hd 9999]
theorem eq23 (p : Option Addr) (w : World) : (binOp .eql 23 (.pointer p) (.pointer p)).run Try.prog w = .ok (.bool true) w := eq_ptr 23 _ Try.underlying23 (by kernel_rfl) p w
theorem two_blocks (w : World) (a b : Obj) : ((w.alloc a).alloc b).heap[w.heap.size]? = some a ∧ ((w.alloc a).alloc b).heap[w.heap.size + 1]? = some b := by
  have h1 : (w.alloc a).heap[w.heap.size]? = some a := heap_alloc_new w a
  have h2 : ((w.alloc a).alloc b).heap[(w.alloc a).heap.size]? = some b := heap_alloc_new _ b
  have h3 : (w.alloc a).heap.size = w.heap.size + 1 := by simp
  refine ⟨?_, by rw [h3] at h2; exact h2⟩
  rw [← h1]
  exact ((Below.refl (w.alloc a).heap.size (w.alloc a)).alloc (Nat.le_refl _) b).block _ (by omega)
theorem neq23 {x y : Addr} {cx cy : Array Value} {w : World} (hne : x ≠ y) (hx : w.heap[x.block]? = some (.cells cx 53 (0, 0))) (hy : w.heap[y.block]? = some (.cells cy 53 (0, 0))) : (binOp .neq 23 (.pointer (some x)) (.pointer (some y))).run Try.prog w = .ok (.bool true) w := by
  have hs : ∃ j, Try.prog.info? 53 = some j ∧ j.size ≠ 0 := ⟨(Try.prog.info? 53).getD default, by kernel_rfl, of_decide_eq_true (by kernel_rfl)⟩
  obtain ⟨j, hj, hz⟩ := hs
  have hd : ∀ d : Nat, (Op.equalIn (d + 1) 23 (.pointer (some x)) (.pointer (some y))).run Try.prog w = .ok false w := fun d => by
    simp [Op.equalIn, run_underlying Try.underlying23, sizeOf, typeInfo, hj, hz, run_sameAddr_other w hne hx hy]
  simp only [binOp]
  simp [Op.equal, Op.maxDepth, hd 9999]
set_option maxRecDepth 100000 in
set_option maxHeartbeats 1000000 in
theorem walk (a0 : Bool) (a1 : ByteArray) (a2 : ByteArray) (a3 : ByteArray) (w : World) (w1 : a1.size ≤ maxLen) (w2 : a2.size ≤ maxLen) (w3 : a3.size ≤ maxLen) :
    Calls Try.prog 3 #[.bool a0, .string a1, .string a2, .string a3] w fun e w' => e = .returned (.bool true) ∧ Below w.heap.size w w' := by
  have C4 := Lib.hid (bytes4 (.bool a0) a1 a2 a3 w w1 w2 w3)
  unfold maxLen at w1 w2 w3
  obtain ⟨k1, b1⟩ := built_cfg a1
  obtain ⟨k2, b2⟩ := built_cfg a2
  obtain ⟨k3, b3⟩ := built_cfg a3
  have B1 := Lib.hid b1; have B2 := Lib.hid b2; have B3 := Lib.hid b3
  clear b1 b2 b3
  obtain ⟨w0, hw0⟩ : ∃ w0 : World, w0 = w := ⟨_, rfl⟩
  subst hw0
  go_enter Try.func3, Try.ntmps3
  go_wp2_with fail
  refine C4.out.mono ?_
  rintro e w' ⟨r, rfl, hr, rfl⟩
  clear C4
  cases r
  · clear hr
    go_wp2_with fail
    go_ret
    exact ⟨rfl, Below.refl _ _⟩
  · have hsum := hr rfl
    clear hr
    cases a0
    · go_wp2_with (first | (refine wpList_build _ (by rfl) 53 #[(0, .tmp 48)] (by rfl) #[(0, .string a2)] (by simp [go_sem]) k2 B2.out ?_) | (refine wpList_build _ (by rfl) 53 #[(0, .tmp 51)] (by rfl) #[(0, .string a3)] (by simp [go_sem]) k3 B3.out ?_) | fail)
      refine (new5' _ _ (some ⟨w0.heap.size, 0, none⟩) _ rfl _).mono ?_
      rintro e w4 ⟨rfl, h4⟩
      go_wp2_with fail
      refine (new5' _ _ (some ⟨w0.heap.size + 1, 0, none⟩) _ rfl _).mono ?_
      rintro e w5 ⟨rfl, h5⟩
      go_wp2_with fail
      refine (new5' _ _ none _ rfl _).mono ?_
      rintro e w6 ⟨rfl, h6⟩
      go_wp2_with fail
      refine (new5' _ _ none _ rfl _).mono ?_
      rintro e w7 ⟨rfl, h7⟩
      have hB : Below (w0.heap.size + 2) ((w0.alloc (.cells k2 53)).alloc (.cells k3 53)) w7 := by
        have s4 := h4.size; have s5 := h5.size; have s6 := h6.size
        simp at s4
        exact ((h4.mono (by simp)).trans (h5.mono (by omega))).trans ((h6.mono (by omega)).trans (h7.mono (by omega)))
      have x1 : w7.heap[w0.heap.size]? = some (.cells k2 53 (0, 0)) := by rw [hB.block _ (by omega)]; exact (two_blocks w0 _ _).1
      have x2 : w7.heap[w0.heap.size + 1]? = some (.cells k3 53 (0, 0)) := by rw [hB.block _ (by omega)]; exact (two_blocks w0 _ _).2
      have q3 := neq23 (x := ⟨w0.heap.size, 0, none⟩) (y := ⟨w0.heap.size + 1, 0, none⟩) (by simp) x1 x2
      have HB : Below w0.heap.size w0 w7 := (((Below.refl _ _).alloc (Nat.le_refl _) _).alloc (by simp) _).trans (hB.mono (by omega))
      have HBh := Lib.hid HB
      clear h4 h5 h6 h7 hB x1 x2 HB
      have q1 := fun w => eq23 (some ⟨w0.heap.size, 0, none⟩) w
      have q2 := fun w => eq23 (some ⟨w0.heap.size + 1, 0, none⟩) w
      go_wp2
      go_ret
      exact ⟨rfl, HBh.out⟩
    · go_wp2_with (first | (refine wpList_build _ (by rfl) 53 #[(0, .tmp 45)] (by rfl) #[(0, .string a1)] (by simp [go_sem]) k1 B1.out ?_) | (refine wpList_build _ (by rfl) 53 #[(0, .tmp 48)] (by rfl) #[(0, .string a2)] (by simp [go_sem]) k2 B2.out ?_) | (refine wpList_build _ (by rfl) 53 #[(0, .tmp 51)] (by rfl) #[(0, .string a3)] (by simp [go_sem]) k3 B3.out ?_) | fail)
      refine (new5' _ _ (some ⟨w0.heap.size, 0, none⟩) _ rfl _).mono ?_
      rintro e w4 ⟨rfl, h4⟩
      go_wp2_with fail
      refine (new5' _ _ (some ⟨w0.heap.size, 0, none⟩) _ rfl _).mono ?_
      rintro e w5 ⟨rfl, h5⟩
      go_wp2_with fail
      refine (new5' _ _ (some ⟨w0.heap.size, 0, none⟩) _ rfl _).mono ?_
      rintro e w6 ⟨rfl, h6⟩
      go_wp2_with fail
      refine (new5' _ _ none _ rfl _).mono ?_
      rintro e w7 ⟨rfl, h7⟩
      have HB : Below w0.heap.size w0 w7 := by
        have s4 := h4.size; have s5 := h5.size; have s6 := h6.size
        simp at s4
        exact ((((Below.refl _ _).alloc (Nat.le_refl _) _).alloc (by simp) _).alloc (by simp; omega) _).trans (((h4.mono (by simp; omega)).trans (h5.mono (by omega))).trans ((h6.mono (by omega)).trans (h7.mono (by omega))))
      have HBh := Lib.hid HB
      clear h4 h5 h6 h7 HB
      have q1 := fun w => eq23 (some ⟨w0.heap.size, 0, none⟩) w
      go_wp2
      go_ret
      exact ⟨rfl, HBh.out⟩
end Go.Proofs.Ytflfeangjljmbaa.fnTsConfigForDirOverrideHidesDirectory
