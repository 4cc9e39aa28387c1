/- The strings.Builder that mapKeyForDefine makes, by contracts: copyCheck, Write, WriteString. Conditions: what is held and written together takes at most 2^30 bytes. -/
import Derived.Test.YtefkeccjnhkjeaaShelf
import Derived.Test.YtefkeccjnhkjeaaRows
import Derived.Test.YtefkeccjnhkjeaaSls
import Derived.ProofKit
import Derived.OpenShut
import Derived.ShutString
import Derived.WalkLawsBesides
import Derived.WalkSpells
import Derived.Handy
import Derived.Outline
import Derived.Lib.Builder
import Derived.Lib.AppendStr
import Derived.Laws.Externs
namespace Go.Proofs.Ytefkeccjnhkjeaa.Bld
open Go.ChangeShapes Go.WideShapes Go.ChangeAt Go.RowKit Go.Deep Go.Proofs.Ytefkeccjnhkjeaa.Base Go.Proofs.Ytefkeccjnhkjeaa.Sls
set_option linter.unusedVariables false
theorem infoB : (Try.prog.info? 5).map (fun i => (i.zero, i.size, i.bytes)) = some (some (.int .u8 0), 1, 1) := by kernel_rfl
/-- A builder at block b of the call's own (from B on) that holds the bytes l. -/
def Bu (B b : Nat) (l : List UInt8) (w : World) : Prop := Lib.IsBuilder 32 5 B b (Lib.byteCells l) w
/-- Arrays [4]byte are as they were. -/
def Keep (w w' : World) : Prop := ∀ (k : Nat) (cs : Array Value), w.heap[k]? = some (.cells cs 33 (0, 0)) → w'.heap[k]? = some (.cells cs 33 (0, 0))
theorem check_used (b : Nat) (w : World) (h0 : w.cell? ⟨b, 0, none⟩ = some (.pointer (some ⟨b, 0, none⟩))) :
    Calls Try.prog 14 #[.pointer (some ⟨b, 0, none⟩)] w fun e w' => e = .returned (.tuple #[]) ∧ w' = w := by
  obtain ⟨j, hj, _⟩ := Option.map_eq_some_iff.1 (show (Try.prog.info? 32).map (·.size) = some 2 by kernel_rfl)
  have hn := fun W => Lib.run_neq_ptr_same (P := Try.prog) W ⟨b, 0, none⟩ Try.underlying29 hj
  go_enter Try.func14, Try.ntmps14
  go_wp2
  go_end0
  exact ⟨rfl, rfl⟩
theorem check_fresh (b : Nat) (w : World) (h0 : w.cell? ⟨b, 0, none⟩ = some (.pointer none)) (hsh : w.shape? b = some (32, 2)) (hfz : w.frozen? ⟨b, 0, none⟩ = false) :
    Calls Try.prog 14 #[.pointer (some ⟨b, 0, none⟩)] w fun e w' => e = .returned (.tuple #[]) ∧ w' = w.setCell ⟨b, 0, none⟩ (.pointer (some ⟨b, 0, none⟩)) := by
  obtain ⟨j, hj, hjs⟩ := Option.map_eq_some_iff.1 (show (Try.prog.info? 32).map (·.size) = some 2 by kernel_rfl)
  have hn := fun W => Lib.run_neq_ptr_same (P := Try.prog) W ⟨b, 0, none⟩ Try.underlying29 hj
  have hlies : liesAt Try.prog Try.prog.depth 32 (2 / Try.prog.cellsOf 32) 0 32 1 = true := by kernel_rfl
  go_enter Try.func14, Try.ntmps14
  go_wp2
  rw [Lib.run_to_unsafe w ⟨b, 0, none⟩ Try.underlying29 Try.underlying44 hj (by rw [hjs]; decide) hsh (Nat.zero_lt_succ 1)]
  simp only [Result.andThen]
  rw [Oper.upon_value]
  go_wp2
  rw [run_callFunc_extern Try.func15 (by kernel_rfl) (by kernel_rfl) (by kernel_rfl) (e := Extern.AbiNoEscape.same) (by kernel_rfl)]
  rw [Lib.run_noEscape]
  simp only [Result.andThen]
  rw [Oper.upon_value]
  go_wp2
  rw [Lib.run_from_unsafe w ⟨b, 0, none⟩ Try.underlying44 Try.underlying29 hj hsh hlies]
  simp only [Result.andThen]
  rw [Oper.upon_value]
  go_wp2
  go_end0
  exact ⟨rfl, rfl⟩
theorem Keep.refl (w : World) : Keep w w := fun _ _ h => h
theorem Keep.trans {a b c : World} (h : Keep a b) (k : Keep b c) : Keep a c := fun i cs hi => k i cs (h i cs hi)
theorem Keep.set {a b : World} (h : Keep a b) {p : Addr} {cs : Array Value} {T : Nat} (u : Value) (hp : b.heap[p.block]? = some (.cells cs T (0, 0))) (hT : T ≠ 33) : Keep a (b.setCell p u) := fun i c hi => by
  have h1 := h i c hi
  rw [Below.heap_setCell b p u i (by
    rintro rfl
    rw [hp] at h1
    injection h1 with h1
    injection h1 with _ ht
    exact hT ht)]
  exact h1
theorem Keep.grown {a b c : World} {base : Nat} {v : Value} {n : Nat} {xs : List Value} (h : Keep a b) (hg : b.grownBy c v.ownBlock) (hown : b.ownsRow base 5 1 v n xs) : Keep a c := fun i cs hi => by
  have h1 := h i cs hi
  rw [hg.block i (lt_of_block h1) (by
    rcases hown.2 with ⟨rfl, _⟩ | ⟨g, cap, cur, rfl, _, hh, _⟩
    · simp [Value.ownBlock]
    · intro e
      have : i = g := by simpa [Value.ownBlock] using e
      subst this
      rw [hh] at h1
      injection h1 with h1
      injection h1 with _ ht
      exact absurd ht (by decide))]
  exact h1
/-- Behind copyCheck. -/
def Chk (B b : Nat) (l : List UInt8) (w w' : World) : Prop := Lib.BuilderAt 32 5 B b (.pointer (some ⟨b, 0, none⟩)) (Lib.byteCells l) w' ∧ Below B w w' ∧ Keep w w'
theorem check_any (B b : Nat) (l : List UInt8) (w : World) (h : Bu B b l w) : Calls Try.prog 14 #[.pointer (some ⟨b, 0, none⟩)] w fun e w' => e = .returned (.tuple #[]) ∧ Chk B b l w w' := by
  rcases h with h | h
  · refine (check_fresh b w h.cell0 h.shape h.frozen0).mono ?_
    rintro e w' ⟨rfl, rfl⟩
    obtain ⟨hB, v, hb, _⟩ := id h
    exact ⟨rfl, h.used _, (Below.refl B w).setCell (p := ⟨b, 0, none⟩) h.1 _, (Keep.refl w).set (p := ⟨b, 0, none⟩) _ hb (by decide)⟩
  · refine (check_used b w h.cell0).mono ?_
    rintro e w' ⟨rfl, rfl⟩
    exact ⟨rfl, h, Below.refl B _, Keep.refl _⟩
theorem write_any (B b : Nat) (l k : List UInt8) (g n c : Nat) (w : World) (hk : k.length = n) (hn : 0 < n) (h : Bu B b l w) (hB : B ≤ w.heap.size) (hlen : l.length + n ≤ 1073741824) (hg : w.heap[g]? = some (.cells (bv k).toArray 33 (0, 0))) :
    Calls Try.prog 11 #[.pointer (some ⟨b, 0, none⟩), .slice (some ⟨g, 0, none⟩) n c] w fun e w' => e = .returned (.tuple #[.int .i64 n, .nilIface]) ∧ Chk B b (l ++ k) w w' := by
  have C := Lib.hid (check_any B b l w h)
  have HK := Lib.hid hk; have HG := Lib.hid hg
  clear hk hg h
  go_enter Try.func11, Try.ntmps11
  go_wp2_with fail
  refine C.out.mono ?_
  rintro e w1 ⟨rfl, hat, hb1, kp1⟩
  obtain ⟨hBb, v, hbk, hown, hne⟩ := hat
  have c1 : w1.cell? ⟨b, 1, none⟩ = some v := by rw [Lib.cell_of_heap hbk]; rfl
  have hr : Rd w1 w1.heap.size (some ⟨g, 0, none⟩) (bv k) := fun _ => ⟨_, rfl, lt_of_block (kp1 _ _ HG.out), fun j u hj => by
    have := kp1 _ _ HG.out
    have e : (⟨g, 0, none⟩ : Addr).add j = ⟨g, j, none⟩ := by unfold Addr.add; split <;> simp_all
    rw [e, Lib.cell_of_heap this]
    simpa using hj⟩
  have hsz := hb1.size
  have HBK := Lib.hid hbk; have HOWN := Lib.hid hown; have HNE := Lib.hid hne; have HR := Lib.hid hr; have HB1 := Lib.hid hb1; have KP1 := Lib.hid kp1
  clear hbk hown hne hr hb1 kp1
  go_wp2_with (at_builtin; refine append_any _ rfl (.tmp 12) (.tmp 13) 30 5 rfl B Try.underlying30 (.int .u8 0) 1 rfl (by omega) infoB v (Lib.byteCells l) rfl HOWN.out _ _ n c (bv k) (by rw [bv_len]; exact HK.out) rfl HR.out (bv_one k) ?c1 ?c2 ?c3)
  case c1 => rw [Lib.byteCells_length]; omega
  case c2 => omega
  case c3 =>
    intro v' w2 hown' hgrow hat
    have ebs : Lib.byteCells l ++ bv k = Lib.byteCells (l ++ k) := by simp [Lib.byteCells, bv]
    rw [ebs] at hown'
    obtain ⟨A2, c2, hv2⟩ := hown'.form
    subst hv2
    have hb2 : w2.heap[b]? = some (.cells #[.pointer (some ⟨b, 0, none⟩), v] 32 (0, 0)) := by
      rw [hgrow.block b (lt_of_block HBK.out) (fun e => HNE.out e.symm)]
      exact HBK.out
    have d1 : w2.cell? ⟨b, 1, none⟩ = some v := by rw [Lib.cell_of_heap hb2]; rfl
    have f1 : w2.frozen? ⟨b, 1, none⟩ = false := Lib.frozen_of_heap hb2 1
    have R1 := Lib.hid (Lib.BuilderAt.put (T := 32) (e := 5) hBb hb2 (bs' := Lib.byteCells (l ++ k)) hown' (by decide))
    have R2 := Lib.hid ((HB1.out.grown hgrow (by omega) (fun k hk => (HOWN.out.lt k hk).1)).setCell (p := ⟨b, 1, none⟩) hBb (.slice A2 (Lib.byteCells (l ++ k)).length c2))
    have R3 := Lib.hid ((KP1.out.grown hgrow HOWN.out).set (p := ⟨b, 1, none⟩) (.slice A2 (Lib.byteCells (l ++ k)).length c2) hb2 (by decide))
    generalize (Lib.byteCells (l ++ k)).length = q at R1 R2 R3 ⊢
    clear hown' hgrow hat hb2 ebs HBK HOWN HNE HR HB1 KP1
    go_wp2
    go_ret2
    exact ⟨rfl, R1.out, R2.out, R3.out⟩
theorem strCells_eq (s : ByteArray) : Lib.strCells s = Lib.byteCells s.data.toList := rfl
theorem writeString_any (B b : Nat) (l : List UInt8) (s : ByteArray) (w : World) (h : Bu B b l w) (hB : B ≤ w.heap.size) (hlen : l.length + s.size ≤ 1073741824) :
    Calls Try.prog 12 #[.pointer (some ⟨b, 0, none⟩), .string s] w fun e w' => e = .returned (.tuple #[.int .i64 s.size, .nilIface]) ∧ Chk B b (l ++ s.data.toList) w w' := by
  obtain ⟨i0, hi, hz0, hz1, hz2⟩ := info_parts infoB
  have C := Lib.hid (check_any B b l w h)
  have HI := Lib.hid hi; have Z0 := Lib.hid hz0; have Z1 := Lib.hid hz1; have Z2 := Lib.hid hz2
  clear h hi hz0 hz1 hz2
  go_enter Try.func12, Try.ntmps12
  go_wp2_with fail
  refine C.out.mono ?_
  rintro e w1 ⟨rfl, hat, hb1, kp1⟩
  obtain ⟨hBb, v, hbk, hown, hne⟩ := hat
  have c1 : w1.cell? ⟨b, 1, none⟩ = some v := by rw [Lib.cell_of_heap hbk]; rfl
  have hsz := hb1.size
  have HBK := Lib.hid hbk; have HOWN := Lib.hid hown; have HNE := Lib.hid hne; have HB1 := Lib.hid hb1; have KP1 := Lib.hid kp1
  clear hbk hown hne hb1 kp1
  go_wp2_with (at_builtin; refine Lib.wpList_append_own_string _ rfl (.tmp 12) (.tmp 13) 30 9 rfl B 5 i0 Try.underlying30 Try.underlying9 HI.out Z0.out Z1.out Z2.out v _ (Lib.byteCells l) rfl HOWN.out s rfl ?c1 ?c2 ?c3 ?c4)
  case c1 => rw [Lib.byteCells_length]; unfold maxLen; omega
  case c2 => rw [Lib.byteCells_length]; omega
  case c3 => omega
  case c4 =>
    intro v' w2 hown' hgrow _
    have ebs : Lib.byteCells l ++ Lib.strCells s = Lib.byteCells (l ++ s.data.toList) := by simp [Lib.byteCells, Lib.strCells]
    have eln : (Lib.byteCells l).length + s.size = (Lib.byteCells (l ++ s.data.toList)).length := by rw [← ebs, List.length_append, Lib.strCells_length]
    rw [ebs, eln] at hown'
    obtain ⟨A2, c2, hv2⟩ := Own.form hown'
    subst hv2
    have hb2 : w2.heap[b]? = some (.cells #[.pointer (some ⟨b, 0, none⟩), v] 32 (0, 0)) := by
      rw [hgrow.block b (lt_of_block HBK.out) (fun e => HNE.out e.symm)]
      exact HBK.out
    have d1 : w2.cell? ⟨b, 1, none⟩ = some v := by rw [Lib.cell_of_heap hb2]; rfl
    have f1 : w2.frozen? ⟨b, 1, none⟩ = false := Lib.frozen_of_heap hb2 1
    have R1 := Lib.hid (Lib.BuilderAt.put (T := 32) (e := 5) hBb hb2 (bs' := Lib.byteCells (l ++ s.data.toList)) hown' (by decide))
    have R2 := Lib.hid ((HB1.out.grown hgrow (by omega) (fun k hk => (HOWN.out.lt k hk).1)).setCell (p := ⟨b, 1, none⟩) hBb (.slice A2 (Lib.byteCells (l ++ s.data.toList)).length c2))
    have R3 := Lib.hid ((KP1.out.grown hgrow HOWN.out).set (p := ⟨b, 1, none⟩) (.slice A2 (Lib.byteCells (l ++ s.data.toList)).length c2) hb2 (by decide))
    generalize (Lib.byteCells (l ++ s.data.toList)).length = q at R1 R2 R3 ⊢
    clear hown' hgrow hb2 ebs eln HBK HOWN HNE HB1 KP1
    go_wp2
    go_ret2
    exact ⟨rfl, R1.out, R2.out, R3.out⟩
end Go.Proofs.Ytefkeccjnhkjeaa.Bld
