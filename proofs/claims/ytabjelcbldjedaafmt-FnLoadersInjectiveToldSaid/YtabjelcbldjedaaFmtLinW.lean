/- The walk of the law FnLoadersInjective: for every two loaders and every key it returns true. No condition. -/
import Derived.Test.YtabjelcbldjedaaFmtLdC
import Derived.Deep.DeepCutAuto
namespace Go.Proofs.YtabjelcbldjedaaFmt.fnLoadersInjective
open Go.RowKit Go.Deep Go.Maps Go.ChangeMaps Go.MapKept Go.Proofs.YtabjelcbldjedaaFmt.Base Go.Proofs.YtabjelcbldjedaaFmt.Sls Go.Proofs.YtabjelcbldjedaaFmt.Mps Go.Proofs.YtabjelcbldjedaaFmt.Lk Go.Proofs.YtabjelcbldjedaaFmt.Lm Go.Proofs.YtabjelcbldjedaaFmt.Ln Go.Proofs.YtabjelcbldjedaaFmt.LdA Go.Proofs.YtabjelcbldjedaaFmt.LdB Go.Proofs.YtabjelcbldjedaaFmt.LdC
set_option linter.unusedVariables false
theorem bytes_any (a0 a1 : Int) (s0 : ByteArray) (w : World) (hs0 : s0.size ≤ maxLen) :
    Calls Tryf.prog 4 #[.int .u16 a0, .int .u16 a1, .string s0] w (Bd (s0.size ≤ 1048576) w) := by
  unfold maxLen at hs0
  go_enter Tryf.func4, Tryf.ntmps4
  go_wp2
  all_goals first | (go_ret; exact ⟨false, rfl, (fun h => by cases h), rfl⟩) | skip
  go_ret
  exact ⟨true, rfl, (fun _ => by omega), rfl⟩
theorem zero29 (w : World) : (zeroValue 29).run Tryf.prog w = .ok (.int .u8 0) w := by kernel_rfl
theorem put_isMap {D : DataW Value} (h : IsMap D) (k : Lit) (d : DataW Value) : IsMap (D.put k d) := by
  obtain ⟨es, rfl⟩ := h
  exact ⟨_, rfl⟩
theorem fold_isMap : ∀ (l : List (ByteArray × Int)) (D : DataW Value), IsMap D → IsMap (l.foldl (fun D p => D.put (kl p.1) (.held (.int .u8 p.2))) D)
  | [], D, h => h
  | p :: l, D, h => fold_isMap l _ (put_isMap h _ _)
theorem isMapD : IsMap D0 := fold_isMap ents _ isMap0
set_option maxRecDepth 20000 in
theorem lookD (w : World) (g n : Nat) (ext : ByteArray) (x : Int) (D : DataW Value) (hm : IsMap D) (hx : ext.size ≤ 1048576) (h : MD w g n (D.put (kl ext) (.held (.int .u8 x)))) : (Instr.lookup 26 (.map (some g)) (.string ext) true).run Tryf.prog w = .ok (.tuple #[.int .u8 x, .bool true]) w := by
  obtain ⟨u, ps, hrun, hu⟩ := h.look_ok law9 Tryf.underlying26 (zero29 w) (zd := .held (.int .u8 0)) (zp := []) rfl (key_mk ext (by simp only [maxLen]; omega))
  have e : (D.put (kl ext) (.held (.int .u8 x))).atKey (kl ext) (.held (.int .u8 0)) = .held (.int .u8 x) := atKey_put_same hm (kl_key ext) _ _
  have hh : Maps.has (D.put (kl ext) (.held (.int .u8 x))) (kl ext) = true := has_put_same hm (kl_key ext) _
  rw [e] at hu
  unfold self at hu
  injection hu with hu
  injection hu with hu _
  injection hu with hu
  rw [hrun, hh, hu]
theorem look (w : World) (g n : Nat) (ext : ByteArray) (a : Int) (hx : ext.size ≤ 1048576) (h : MD w g n (Df ext a)) : (Instr.lookup 26 (.map (some g)) (.string ext) true).run Tryf.prog w = .ok (.tuple #[.int .u8 (lc a), .bool true]) w :=
  lookD w g n ext (lc a) D0 isMapD hx h
theorem sizeD {w w' : World} {g g' n n' : Nat} (ext : ByteArray) (x x' : Int) (D : DataW Value) (hm : IsMap D) (h : MD w g n (D.put (kl ext) (.held (.int .u8 x)))) (h' : MD w' g' n' (D.put (kl ext) (.held (.int .u8 x')))) : Maps.size (D.put (kl ext) (.held (.int .u8 x))) = Maps.size (D.put (kl ext) (.held (.int .u8 x'))) := by
  refine LdA.size_same (h.canon law9) (h'.canon law9) (fun l => ?_)
  rcases Classical.em (l = kl ext) with e | e
  · subst e
    rw [has_put_same hm (kl_key ext), has_put_same hm (kl_key ext)]
  · rw [has_put_other e, has_put_other e]
theorem same_size {w w' : World} {g g' n n' : Nat} (ext : ByteArray) (a a' : Int) (h : MD w g n (Df ext a)) (h' : MD w' g' n' (Df ext a')) : Maps.size (Df ext a) = Maps.size (Df ext a') :=
  sizeD ext (lc a) (lc a') D0 isMapD h h'
set_option maxRecDepth 20000 in
set_option maxHeartbeats 2000000 in
theorem walk (a0 : Int) (a1 : Int) (a2 : ByteArray) (w : World) (w0 : (Lit.int .u16 a0).wf = true) (w1 : (Lit.int .u16 a1).wf = true) (w2 : a2.size ≤ maxLen) :
    Calls Tryf.prog 3 #[.int .u16 a0, .int .u16 a1, .string a2] w fun e w' => e = .returned (.bool true) ∧ Below w.heap.size w w' := by
  have hm0 : IntKind.min .u16 = 0 := by decide
  have hm1 : IntKind.max .u16 = 65535 := by decide
  simp [Lit.wf, hm0, hm1] at w0 w1
  have HB := Lib.hid (bytes_any a0 a1 a2 w w2)
  unfold maxLen at w2
  by_cases hz : a2.size ≤ 1048576
  · by_cases hA : a0 ≤ 16
    · by_cases hB : a1 ≤ 16
      · obtain ⟨vb, hvb⟩ := valid16 a2 (by unfold maxLen; omega)
        have Z := Lib.hid (fun a b n w h0 h1 hown => zz5 a2 a vb b n w hz h0 h1 hvb hown)
        obtain ⟨k, hk⟩ : ∃ k : Nat, k = if a2.toList.isEmpty = false ∧ vb = false then 1 else 0 := ⟨_, rfl⟩
        rw [← hk] at Z
        have HKM := Lib.hid (key_mk a2 (by unfold maxLen; omega))
        clear hvb hk hm0 hm1
        have m25 := make25
        go_enter Tryf.func3, Tryf.ntmps3
        go_upto_region 6 with (first | (go_at_call 4; refine HB.out.mono ?_; rintro e w7 ⟨b, rfl, hb, rfl⟩; clear hb) | (refine wpList_insert_own _ rfl _ _ _ 25 rfl 9 24 law9 Tryf.underlying25 self w.heap.size 0 (.map []) rfl (World.ownsMap_made w Tryf.prog 9 self) (by unfold maxLen; omega) (.string a2) (.int .u16 a0) (kl a2) rfl rfl HKM.out (.held (.int .u16 a0)) [] rfl ?_; intro w3 hout3 hg3; have HO3 := Lib.hid hout3; have HG3 := Lib.hid hg3; clear hout3 hg3) | fail)
        all_goals first | (go_ret; exact ⟨rfl, Below.refl _ _⟩; done) | skip
        have m1 := HO3.out
        have hs3 := HG3.out.size
        simp only [World.size_alloc] at hs3
        have hb3 : Below w.heap.size w w3 := ((Below.refl _ _).alloc (Nat.le_refl _) _).grown HG3.out (by simp) (fun j hj => by cases hj; exact Nat.le_refl _)
        have HB3 := Lib.hid hb3
        clear hb3 m1
        go_upto_region 7 with (first | (refine wpList_insert_own _ rfl _ _ _ 25 rfl 9 24 law9 Tryf.underlying25 self w3.heap.size 0 (.map []) rfl (World.ownsMap_made w3 Tryf.prog 9 self) (by unfold maxLen; omega) (.string a2) (.int .u16 a1) (kl a2) rfl rfl HKM.out (.held (.int .u16 a1)) [] rfl ?_; intro w5 hout5 hg5; have HO5 := Lib.hid hout5; have HG5 := Lib.hid hg5; clear hout5 hg5) | fail)
        have hs5 := HG5.out.size
        simp only [World.size_alloc] at hs5
        have P5 := Lib.hid (md_to (w' := w5) HO3.out ((HG5.out.block w.heap.size (by simp; omega) (fun e => by have := Option.some.inj e; omega)).trans (blk_alloc_lt w3 _ _ (by omega))))
        have hb5 : Below w.heap.size w w5 := (HB3.out.alloc HB3.out.size _).grown HG5.out (by simp; omega) (fun j hj => by cases hj; omega)
        have HB5 := Lib.hid hb5
        have z5 := HO5.out.lt
        clear HG3 HO3 HG5 HB3 hb5
        have Z1 := Lib.hid (Z.out a0 w.heap.size _ w5 w0.1 hA P5.out)
        go_upto_region 8 with (first | (go_at_call 5; refine Z1.out.mono ?_; rintro e w6 ⟨g1, rfl, hm6, hb6⟩) | fail)
        have Q6 := Lib.hid (md_to (w' := w6) HO5.out (hb6.block w3.heap.size z5))
        have z6 := Q6.out.lt
        have B6 := Lib.hid (HB5.out.trans (hb6.mono HB5.out.size))
        have M6 := Lib.hid hm6
        clear hm6 hb6 HO5 P5 Z1 HB5
        have Z2 := Lib.hid (Z.out a1 w3.heap.size _ w6 w1.1 hB Q6.out)
        go_upto_region 9 with (first | (go_at_call 5; refine Z2.out.mono ?_; rintro e w7 ⟨g2, rfl, hm7, hb7⟩) | fail)
        have R7 := md_to (w' := w7) M6.out (hb7.block g1 M6.out.lt)
        have B7 := Lib.hid (B6.out.trans (hb7.mono B6.out.size))
        have k1 := look w7 g1 _ a2 a0 hz R7
        have k2 := look w7 g2 _ a2 a1 hz hm7
        have n1 : (Builtin.len_ #[26] 3 #[.map (some g1)]).run Tryf.prog w7 = .ok (.int .i64 (Maps.size (Df a2 a0))) w7 := R7.len Tryf.underlying26 3
        have n2 : (Builtin.len_ #[26] 3 #[.map (some g2)]).run Tryf.prog w7 = .ok (.int .i64 (Maps.size (Df a2 a0))) w7 := by rw [same_size a2 a0 a1 R7 hm7]; exact hm7.len Tryf.underlying26 3
        generalize Maps.size (Df a2 a0) = sz at n1 n2
        have hi := lc_inj a0 a1 hA hB
        clear R7 hm7 hb7 M6 Z Z2 Q6 B6
        generalize lc a0 = x0 at k1 hi
        generalize lc a1 = x1 at k2 hi
        obtain ⟨bb, hbb⟩ : ∃ bb, (a0 == a1) = bb := ⟨_, rfl⟩
        rw [hbb] at hi
        go_wp2_with (fail)
        go_ret
        exact ⟨rfl, B7.out⟩
      · go_enter Tryf.func3, Tryf.ntmps3
        go_wp2_with (first | (go_at_call 4; refine HB.out.mono ?_; rintro e w7 ⟨b, rfl, hb, rfl⟩; clear hb) | fail)
        all_goals
          go_ret
          exact ⟨rfl, Below.refl _ _⟩
    · go_enter Tryf.func3, Tryf.ntmps3
      go_wp2_with (first | (go_at_call 4; refine HB.out.mono ?_; rintro e w7 ⟨b, rfl, hb, rfl⟩; clear hb) | fail)
      all_goals
        go_ret
        exact ⟨rfl, Below.refl _ _⟩
  · have HZ := Lib.hid hz
    clear hz
    go_enter Tryf.func3, Tryf.ntmps3
    go_wp2_with fail
    refine HB.out.mono ?_
    rintro e w' ⟨b, rfl, hb, rfl⟩
    cases b
    · clear hb
      go_wp2
      go_ret
      exact ⟨rfl, Below.refl _ _⟩
    · exact absurd (hb rfl) HZ.out
end Go.Proofs.YtabjelcbldjedaaFmt.fnLoadersInjective
