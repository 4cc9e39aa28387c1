/- Maps from strings to interface values, by what they read as: strings other than the barred one, or false. The clone by its contract. Condition: the map has at most 2^20 entries. -/
import Derived.Test.YtpaefmnjhfldjaaFmtMps
import Derived.Test.YtpaefmnjhfldjaaFmtProg
import Derived.Maps.RangeWalk
import Derived.Maps.Ext
import Derived.Lib.IfaceNeq
import Derived.WalkSpells
import Derived.Maps.OwnSet
namespace Go.Proofs.YtpaefmnjhfldjaaFmt.Mpd
open Go.RowKit Go.Maps Go.ChangeMaps Go.MapKept Go.Proofs.YtpaefmnjhfldjaaFmt.Base Go.Proofs.YtpaefmnjhfldjaaFmt.Mps
set_option linter.unusedVariables false
def proto : ByteArray := { data := #[95, 95, 112, 114, 111, 116, 111, 95, 95] }
/-- An entry's value: a string, or false. -/
def shp : Option ByteArray → Value
  | some x => .iface 9 (.string x)
  | none => .iface 4 (.bool false)
theorem law9 : Keyed Tryf.prog 9 := string_keyed Tryf.underlying9
theorem beqB (x y : ByteArray) : (x == y) = decide (x = y) := by
  cases x; cases y
  rename_i a b
  show (a == b) = decide (ByteArray.mk a = ByteArray.mk b)
  rw [Bool.eq_iff_iff, beq_iff_eq, decide_eq_true_eq]
  exact ⟨fun h => by rw [h], fun h => by injection h⟩
theorem zero20 (w : World) : (zeroValue 20).run Tryf.prog w = .ok .nilIface w := by kernel_rfl
theorem eqIn (w : World) (x y : ByteArray) (d : Nat) : (Op.equalIn (d + 2) 20 (.iface 9 (.string x)) (.iface 9 (.string y))).run Tryf.prog w = .ok (x == y) w := by
  obtain ⟨i, hi, hc⟩ : ∃ i, Tryf.prog.info? 9 = some i ∧ i.comparable = true := ⟨_, rfl, by kernel_rfl⟩
  simp [Op.equalIn, run_underlying Tryf.underlying20, run_underlying Tryf.underlying9, typeInfo, hi, hc]
theorem eqIn49 (w : World) (x : ByteArray) (b : Bool) (d : Nat) : (Op.equalIn (d + 2) 20 (.iface 4 (.bool b)) (.iface 9 (.string x))).run Tryf.prog w = .ok false w := by
  simp [Op.equalIn, run_underlying Tryf.underlying20]
theorem eqIn44 (w : World) (a b : Bool) (d : Nat) : (Op.equalIn (d + 2) 20 (.iface 4 (.bool a)) (.iface 4 (.bool b))).run Tryf.prog w = .ok (a == b) w := by
  obtain ⟨i, hi, hc⟩ : ∃ i, Tryf.prog.info? 4 = some i ∧ i.comparable = true := ⟨_, rfl, by kernel_rfl⟩
  simp [Op.equalIn, run_underlying Tryf.underlying20, run_underlying Tryf.underlying4, typeInfo, hi, hc]
/-- v == "__proto__" -/
theorem eql_str (x y : ByteArray) (w : World) : (binOp .eql 20 (.iface 9 (.string x)) (.iface 9 (.string y))).run Tryf.prog w = .ok (.bool (x == y)) w := by
  simp only [binOp]; simp [Op.equal, Op.maxDepth, eqIn w x y 9998]
theorem eql_bs (b : Bool) (y : ByteArray) (w : World) : (binOp .eql 20 (.iface 4 (.bool b)) (.iface 9 (.string y))).run Tryf.prog w = .ok (.bool false) w := by
  simp only [binOp]; simp [Op.equal, Op.maxDepth, eqIn49 w y b 9998]
theorem eql_bb (a b : Bool) (w : World) : (binOp .eql 20 (.iface 4 (.bool a)) (.iface 4 (.bool b))).run Tryf.prog w = .ok (.bool (a == b)) w := by
  simp only [binOp]; simp [Op.equal, Op.maxDepth, eqIn44 w a b 9998]
theorem neq_same (o : Option ByteArray) (w : World) : (binOp .neq 20 (shp o) (shp o)).run Tryf.prog w = .ok (.bool false) w := by
  cases o with
  | some x => simp only [binOp, shp]; simp [Op.equal, Op.maxDepth, eqIn w x x 9998, beqB]
  | none => simp only [binOp, shp]; simp [Op.equal, Op.maxDepth, eqIn44 w false false 9998]
/-- Every entry is a string other than the barred one, or false. -/
def Good (D : DataW Value) : Prop := ∀ k, Maps.has D k = true → ∃ o : Option ByteArray, (∀ x, o = some x → x ≠ proto) ∧ ∀ z, D.atKey k z = .held (shp o)
abbrev MD (w : World) (b n : Nat) (D : DataW Value) : Prop := w.ownsMap Tryf.prog 9 self b n D
theorem key_inv {key : Value} {l : Lit} (h : keyOf Tryf.prog 9 key = some l) : ∃ x : ByteArray, key = .string x ∧ l = kl x ∧ x.size ≤ maxLen := by
  rw [keyOf_string Tryf.underlying9] at h
  cases key <;> simp [mapKey, Tryf.underlying9] at h
  rename_i x
  exact ⟨x, rfl, h.2.symm, h.1⟩
theorem ne_proto {x : ByteArray} (h : x ≠ proto) : (x == proto) = false := by rw [beqB]; exact decide_eq_false h
/-- v.(string) -/
theorem assert_str (x : ByteArray) (w : World) : (Instr.typeAssert (.iface 9 (.string x)) 20 9 true).run Tryf.prog w = .ok (.tuple #[.string x, .bool true]) w := by kernel_rfl
theorem assert_bool (b : Bool) (w : World) : (Instr.typeAssert (.iface 4 (.bool b)) 20 9 true).run Tryf.prog w = .ok (.tuple #[.string { data := #[] }, .bool false]) w := by kernel_rfl
theorem make28 (n : Nat) (w : World) : (Instr.makeMap 28 (some (.int .i64 (n : Int)))).run Tryf.prog w = .ok (.map (some w.heap.size)) (w.alloc (.map #[] 0)) := by kernel_rfl
def log0 : Value := .agg #[.nilFunc, .nilFunc, .nilFunc, .nilFunc, .int .i8 0, .map none]
/-- The loop under way: what is no longer to come lies in the new map. -/
def Cl (w : World) (b n : Nat) (D : DataW Value) (wr : World) : Prop :=
  ∃ (left : Lit → Bool) (cnt : Nat) (Dout : DataW Value), wr.ranges Tryf.prog 9 self b (w.heap.size + 2) n D left cnt ∧ cnt ≤ Maps.size D ∧ MD wr (w.heap.size + 1) (Maps.size D - cnt) Dout ∧ Agree Dout D left ∧ (∀ k, left k = true → Maps.has D k = true) ∧ Below w.heap.size w wr
set_option maxRecDepth 100000 in
set_option maxHeartbeats 4000000 in
theorem clone10 (b n : Nat) (D : DataW Value) (w : World) (hown : MD w b n D) (hG : Good D) (hmax : Maps.size D ≤ 1048576) :
    Calls Tryf.prog 10 #[log0, .map (some b)] w fun e w' => e = .returned (.map (some (w.heap.size + 1))) ∧ MD w' (w.heap.size + 1) (Maps.size D) D ∧ Below w.heap.size w w' := by
  have hbl := hown.lt
  have hnl := fun (W : World) => run_eql_map_nil (P := Tryf.prog) W 28 9 20 (some b) Tryf.underlying28
  have hmk := make28 (Maps.size D)
  have HO := Lib.hid hown; have HG := Lib.hid hG
  clear hown hG
  unfold log0
  go_enter Tryf.func10, Tryf.ntmps10
  go_wp2_with (first
    | (at_len; refine wpList_len_own _ rfl _ 28 rfl 9 20 Tryf.underlying28 self b n D rfl (HO.out.alloc _) ?_)
    | (at_range; refine wpList_range_own _ rfl _ 28 rfl 9 20 law9 Tryf.underlying28 self b n D rfl ((HO.out.alloc _).alloc _) ?_; intro w0 hrg0 hg0 hs0))
  go_frame
  have e2 : ((w.alloc (.cells #[.nilFunc, .nilFunc, .nilFunc, .nilFunc, .int .i8 0, .map none] 41)).alloc (.map #[] 0)).heap.size = w.heap.size + 2 := by simp
  have e1 : (w.alloc (.cells #[.nilFunc, .nilFunc, .nilFunc, .nilFunc, .int .i8 0, .map none] 41)).heap.size = w.heap.size + 1 := by simp
  have hm0 : MD ((w.alloc (.cells #[.nilFunc, .nilFunc, .nilFunc, .nilFunc, .int .i8 0, .map none] 41)).alloc (.map #[] 0)) (w.heap.size + 1) 0 (.map []) := by
    have := World.ownsMap_made (w.alloc (.cells #[.nilFunc, .nilFunc, .nilFunc, .nilFunc, .int .i8 0, .map none] 41)) Tryf.prog 9 self
    rw [e1] at this; exact this
  have hB0 : Below w.heap.size w w0 := (((Below.refl _ _).alloc (Nat.le_refl _) _).alloc (by simp) _).grown hg0 (by simp; omega) (fun j hj => by cases hj)
  have hC0 : Cl w b n D w0 := ⟨_, _, .map [], by rw [← e2]; exact hrg0, Nat.le_refl _, (hm0.kept hg0 (by simp)).mono (Nat.zero_le _), agree_start D, fun k h => h, hB0⟩
  rw [e2]
  have HC0 := Lib.hid hC0
  clear hC0 hB0 hm0 hrg0 hg0 hs0 e1 e2 hmk hnl
  go_loopw [6] (fun _ wr => Cl w b n D wr) (fun _ wr => wr.rangeLeft b (w.heap.size + 2))
  case atStart => exact HC0.out
  case round =>
    obtain ⟨left, cnt, Dout, hrg, hcs, hout, hA, hleft, hnx⟩ := hrel
    have HRG := Lib.hid hrg; have HOUT := Lib.hid hout; have HA := Lib.hid hA; have HLF := Lib.hid hleft; have HNX := Lib.hid hnx
    clear hrg hout hA hleft hnx HC0
    go_wp2_with (at_next; refine wpList_next_ranges (α := ByteArray) (β := Value) _ rfl _ rfl 9 law9 self Value.string id (fun key kl' h => by obtain ⟨x, e, _⟩ := key_inv h; exact ⟨x, e⟩) (fun v y h => ⟨v, rfl⟩) b (w.heap.size + 2) n D left cnt rfl HRG.out ?_ ?_)
    · intro hc0 hl0
      have e := agree_end HA.out hl0 (HOUT.out.canon law9) (HO.out.canon law9)
      have HE := Lib.hid e
      have HC := Lib.hid hc0
      clear e hc0 hl0
      go_wp2
      go_ret
      refine ⟨rfl, ?_, HNX.out⟩
      have := HOUT.out
      rw [HE.out, HC.out] at this
      simpa using this
    · intro x c kl' y1 y2 w1 cnt1 hkx hlk hR hat hrg1 hlt hg1 hs1 hen
      obtain ⟨x', ex, ekl, hxs⟩ := key_inv hkx
      injection ex with ex
      subst ex
      subst ekl
      obtain ⟨o, hne, ho⟩ := HG.out _ (HLF.out _ hlk)
      unfold self at hR
      injection hR with hR
      injection hR with hy1 hy2
      subst hy1
      subst hy2
      have hc : c = shp o := by
        have h1 := ho .nil
        rw [hat] at h1
        injection h1
      subst hc
      have HAT := Lib.hid hat; have HRG1 := Lib.hid hrg1; have HG1 := Lib.hid hg1; have HKX := Lib.hid hkx; have HNE := Lib.hid hne; have HLT := Lib.hid hlt; have HLK := Lib.hid hlk
      have hout1 := HOUT.out.kept hg1 (by simp)
      have HO1 := Lib.hid hout1
      clear hat hrg1 hg1 hkx hne hlt hlk ho hout1 hs1
      have fin : ∀ w2 : World, MD w2 (w.heap.size + 1) (Maps.size D - cnt + 1) (Dout.put (kl x) (.held (shp o))) → w1.grownBy w2 (some (w.heap.size + 1)) → Hid (Cl w b n D w2) ∧ Hid (w2.rangeLeft b (w.heap.size + 2) < wr.rangeLeft b (w.heap.size + 2)) := fun w2 h2 g2 => by
        have hrg2 := HRG1.out.kept g2 (fun e => by have := Option.some.inj e; omega) (fun e => by have := Option.some.inj e; omega)
        refine ⟨Lib.hid ⟨_, cnt1, _, hrg2, by have := HLT.out; omega, h2.mono (by have := HLT.out; omega), agree_step HA.out HOUT.out.isMap trivial HAT.out, fun k hk => HLF.out k (by revert hk; cases left k <;> simp), (HNX.out.grown HG1.out HNX.out.size (fun j hj => by cases hj; omega)).grown g2 (by have := HNX.out.size; have := HG1.out.size; omega) (fun j hj => by cases hj; omega)⟩, Lib.hid ?_⟩
        rw [hrg2.left_eq, HRG.out.left_eq]; exact HLT.out
      have FIN := Lib.hid fin
      have hcn : Maps.size D - cnt < maxLen := by unfold maxLen; omega
      clear fin hcs
      cases o with
      | some v =>
        have hvp := ne_proto (HNE.out v rfl)
        have he := fun W => eql_str v proto W
        rw [hvp] at he
        have ha := fun W => assert_str v W
        unfold proto at he
        unfold shp at hen HO1 FIN
        clear hvp
        go_wp2_with (at_mapUpdate; refine wpList_mapUpdate_own _ rfl _ _ _ 28 rfl 9 20 law9 Tryf.underlying28 self (w.heap.size + 1) _ _ rfl HO1.out hcn _ _ _ rfl rfl HKX.out _ [] rfl ?_; intro w2 hout2 hg2; go_frame)
        obtain ⟨F1, F2⟩ := FIN.out w2 hout2 hg2
        go_roundw
        case rel => first | exact F1.out | ((repeat apply Exists.intro); exact ⟨F1.out, by simp⟩)
        case measure => exact F2.out
      | none =>
        have he := fun W => eql_bs false proto W
        have hb := fun W => eql_bb false false W
        have ha := fun W => assert_bool false W
        unfold proto at he
        unfold shp at hen HO1 FIN
        go_wp2_with (at_mapUpdate; refine wpList_mapUpdate_own _ rfl _ _ _ 28 rfl 9 20 law9 Tryf.underlying28 self (w.heap.size + 1) _ _ rfl HO1.out hcn _ _ _ rfl rfl HKX.out _ [] rfl ?_; intro w2 hout2 hg2; go_frame)
        obtain ⟨F1, F2⟩ := FIN.out w2 hout2 hg2
        go_roundw
        case rel => first | exact F1.out | ((repeat apply Exists.intro); exact ⟨F1.out, by simp⟩)
        case measure => exact F2.out
end Go.Proofs.YtpaefmnjhfldjaaFmt.Mpd
