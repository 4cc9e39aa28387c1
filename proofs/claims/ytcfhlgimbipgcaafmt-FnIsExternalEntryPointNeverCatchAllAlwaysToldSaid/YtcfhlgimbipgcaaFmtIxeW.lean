/- The walk of the law FnIsExternalEntryPointNeverCatchAllAlways: for all lists, paths and kinds it returns true. No condition. -/
import Derived.Test.YtcfhlgimbipgcaaFmtIxd
namespace Go.Proofs.YtcfhlgimbipgcaaFmt.fnIsExternalEntryPointNeverCatchAllAlways
open Go.RowKit Go.Deep Go.Proofs.YtcfhlgimbipgcaaFmt.Base Go.Proofs.YtcfhlgimbipgcaaFmt.Sls Go.Proofs.YtcfhlgimbipgcaaFmt.Mps Go.Proofs.YtcfhlgimbipgcaaFmt.Ixa Go.Proofs.YtcfhlgimbipgcaaFmt.Ixb Go.Proofs.YtcfhlgimbipgcaaFmt.Ixc Go.Proofs.YtcfhlgimbipgcaaFmt.Ixd
set_option linter.unusedVariables false
attribute [local go_sem ↓] Go.wp_at_zero Go.wp_at_succ
theorem mp_form {w : World} {base : Nat} {M : Value} (h : Mp w base M) : ∃ om, M = .map om := by
  rcases h with rfl | ⟨b, n, f, rfl, _⟩
  · exact ⟨_, rfl⟩
  · exact ⟨_, rfl⟩
theorem own_form {w : World} {base e size n : Nat} {v : Value} {xs : List Value} (h : w.ownsRow base e size v (n + 1) xs) : ∃ A c, v = .slice A (n + 1) c := by
  rcases h.2 with ⟨_, h0⟩ | ⟨g, cap, cur, rfl, _⟩
  · omega
  · exact ⟨_, _, rfl⟩
theorem make1 (w : World) : (Instr.makeMap 26 (some (.int .i64 1))).run Tryf.prog w = .ok (.map (some w.heap.size)) (w.alloc (.map #[] 0)) := by kernel_rfl
set_option maxRecDepth 20000 in
set_option maxHeartbeats 4000000 in
theorem main (a0 a1 a2 : Option Addr) (len0 cap0 len1 cap1 len2 cap2 : Nat) (l0 l1 l2 : List ByteArray) (p : ByteArray) (kd : Int) (b : Bool) (w : World) (hk : (kd == 0) = b)
    (L0 : l0.length = len0) (L1 : l1.length = len1) (L2 : l2.length = len2) (g0 : len0 ≤ 1048576) (g1 : len1 ≤ 1048576) (g2 : len2 ≤ 1048576) (r0 : Rd w w.heap.size a0 (sv l0)) (r1 : Rd w w.heap.size a1 (sv l1)) (r2 : Rd w w.heap.size a2 (sv l2)) (m0 : ∀ s ∈ l0, s.size ≤ 1048576) (m1 : ∀ s ∈ l1, s.size ≤ 1048576) (m2 : ∀ s ∈ l2, s.size ≤ 1048576) (hp : p.size ≤ 1048576)
    (hy : Calls Tryf.prog 4 #[.slice a0 len0 cap0, .slice a1 len1 cap1, .slice a2 len2 cap2, .string p, .int .u8 kd] w (Bd True w)) :
    Calls Tryf.prog 3 #[.slice a0 len0 cap0, .slice a1 len1 cap1, .slice a2 len2 cap2, .string p, .int .u8 kd] w fun e w' => e = .returned (.bool true) ∧ Below w.heap.size w w' := by
  have HY := Lib.hid hy
  have G5 := Lib.hid (guard5 a0 len0 cap0 l0 a1 len1 cap1 l1 a2 len2 cap2 l2 p w L0 g0 r0 m0 L1 g1 r1 m1 L2 g2 r2 m2 hp)
  have HK := Lib.hid hk
  have B6 : Hid (∀ w' : World, Below w.heap.size w w' → Calls Tryf.prog 6 #[.slice a0 len0 cap0, .slice a1 len1 cap1, .slice a2 len2 cap2] w' (Bld w')) := Lib.hid fun w' hb => build6 a0 len0 cap0 l0 a1 len1 cap1 l1 a2 len2 cap2 l2 w' L0 g0 (r0.later hb) m0 L1 g1 (r1.later hb) m1 L2 g2 (r2.later hb) m2
  obtain ⟨i0, hi, hz0, hz1, hz2⟩ := info_parts info32
  have HI := Lib.hid hi; have Z0 := Lib.hid hz0; have Z1 := Lib.hid hz1; have Z2 := Lib.hid hz2
  clear hi hz0 hz1 hz2 hy L0 L1 L2 r0 r1 r2 m0 m1 m2 hk
  go_enter Tryf.func3, Tryf.ntmps3
  go_wp2_with (fail)
  refine HY.out.mono ?_
  rintro e w1 ⟨b1, rfl, _, rfl⟩
  go_wp2_with (fail)
  · go_ret
    exact ⟨rfl, Below.refl _ _⟩
  refine G5.out.mono ?_
  rintro e w1 ⟨b2, rfl, _, rfl⟩
  go_wp2_with (fail)
  · go_ret
    exact ⟨rfl, Below.refl _ _⟩
  refine (B6.out w (Below.refl _ _)).mono ?_
  rintro e w1 ⟨M, v, l, rfl, hM, hP, hl, hB, hdis, hb⟩
  obtain ⟨om, rfl⟩ := mp_form hM
  obtain ⟨A, c, rfl, _⟩ := hP.at_
  have HM := Lib.hid hM; have HP := Lib.hid hP; have HB := Lib.hid hB; have Hb := Lib.hid hb; have HD := Lib.hid hdis
  have hw1 := hb.size
  have LEN1 : l.length + 1 ≤ maxLen := by unfold maxLen; omega
  have LENB : (l.length + 1) * 32 ≤ 140737488355328 := by omega
  clear hM hP hB hb hdis
  go_wp2_with (refine wpList_append_own_at _ rfl _ _ 27 rfl w.heap.size 32 i0 (.agg #[.string { data := #[] }, .string { data := #[] }]) 2 32 Tryf.underlying27 HI.out Z0.out Z1.out Z2.out rfl (by omega) (.slice A l.length c) l.length (pv l) rfl (World.ownsRow.alloc (World.ownsRow.alloc HP.out _) _) ⟨w1.heap.size + 1, 0, none⟩ 1 1 [.string { data := #[] }, .string { data := #[] }] rfl (by rfl) (by have := World.news_of_block (heap_alloc_new (w1.alloc (.cells #[.map om, .slice A l.length c] 29)) (.cells #[.string { data := #[] }, .string { data := #[] }] 32)); rw [World.size_alloc] at this; exact this) (by intro u hu; simp only [List.mem_cons, List.not_mem_nil, or_false] at hu; rcases hu with rfl | rfl <;> rfl) LEN1 LENB (by simp; omega) ?_; intro v2 w4 o4 g4 _ at4; obtain ⟨A2, c2, rfl⟩ := own_form o4; have T12 : w4.rowIs w1.heap.size 29 2 (two (.map om) (.slice A l.length c)) := ((row2 (.map om) (.slice A l.length c) 29 w1).alloc _).of_block (g4.block _ (by simp; omega) (by intro e; have := (Pw.lt HP.out e.symm).2; omega)); have d0 := T12.cell (i := 0) (by omega); have d1 := T12.cell (i := 1) (by omega); have f1 := T12.frozen 1; simp only [two] at d0 d1; have HT12 := Lib.hid T12; have HO4 := Lib.hid o4; have HG4 := Lib.hid g4; have HA4 := Lib.hid at4; clear T12 o4 g4 at4)
  have hz4 := HG4.out.size
  simp only [World.size_alloc] at hz4
  have P4 : Pw w4 w.heap.size (.slice A2 (l.length + 1) c2) (l ++ [({ data := #[] }, { data := #[] })]) := by
    unfold Pw
    rw [List.length_append, pv_append]
    exact HO4.out
  have hne : ∀ g, (Value.slice A2 (l.length + 1) c2).ownBlock = some g → g ≠ w1.heap.size := by
    intro g hg
    rcases HA4.out with e | e
    · rw [e] at hg; have := (Pw.lt HP.out hg).2; omega
    · rw [e] at hg; simp only [World.size_alloc] at hg; have := Option.some.inj hg; omega
  have P5 := P4.to (w' := w4.setCell ⟨w1.heap.size, 1, none⟩ (.slice A2 (l.length + 1) c2)) (fun g hg => blk_setCell_other _ _ _ _ (hne g hg))
  have M5 : Mp (w4.setCell ⟨w1.heap.size, 1, none⟩ (.slice A2 (l.length + 1) c2)) w.heap.size (.map om) := by
    rcases HM.out with h | ⟨bb, n, f, h, hb1, hn1, hm1⟩
    · exact .inl h
    · refine .inr ⟨bb, n, f, h, hb1, hn1, hm1.of_block (o := none) ?_⟩
      have hbz := hm1.lt
      subst_vars
      refine (blk_setCell_other _ _ _ _ ?_).trans ((HG4.out.block bb (by simp only [World.size_alloc]; omega) (fun e => HD.out bb h e.symm)).trans ((blk_alloc_lt _ _ _ (by simp only [World.size_alloc]; omega)).trans (blk_alloc_lt _ _ _ hbz)))
      show bb ≠ w1.heap.size
      omega
  have BL5 := Lib.hid ((((Hb.out.alloc hw1 (.cells #[.map om, .slice A l.length c] 29)).alloc (by simp only [World.size_alloc]; omega) (.cells #[.string { data := #[] }, .string { data := #[] }] 32)).grown HG4.out (by simp only [World.size_alloc]; omega) (fun q e => (Pw.lt HP.out e).1)).setCell (show w.heap.size ≤ (⟨w1.heap.size, 1, none⟩ : Addr).block from hw1) (.slice A2 (l.length + 1) c2))
  refine (star7 (.map om) (.slice A2 (l.length + 1) c2) p kd b _ w.heap.size w.heap.size l HK.out M5 hp hl P5 HB.out).mono ?_
  rintro e w6 ⟨rfl, hb6⟩
  have BL6 := Lib.hid (below_join BL5.out BL5.out.size hb6)
  clear hb6 P4 P5 M5 hne d0 d1 f1
  go_wp2_with (fail)
  refine (B6.out w6 BL6.out).mono ?_
  rintro e w7 ⟨M', v', l', rfl, hM', hP', hl', hB', hdis', hb'⟩
  obtain ⟨om', rfl⟩ := mp_form hM'
  obtain ⟨A', c', rfl, _⟩ := hP'.at_
  have HM' := Lib.hid hM'
  have BL7 := Lib.hid (below_join BL6.out BL6.out.size hb')
  have hr := fun (w : World) (r : Option Nat) => run_eql_map_nil (P := Tryf.prog) w 26 9 4 r Tryf.underlying26
  have hmk1 := make1
  clear hM' hP' hB' hdis' hb'
  cases om'
  · have RC : Hid (∀ o1 : Obj, MapIs Tryf.prog 9 ((w7.alloc o1).alloc (.map #[] 0)) (w7.heap.size + 1) 0 (fun _ => none)) := Lib.hid fun o1 => by
      have := MapIs.made Tryf.prog 9 (w7.alloc o1)
      rw [World.size_alloc] at this
      exact this
    have RT : Hid (∀ o1 : Obj, ((w7.alloc (.cells #[.map (some (w7.heap.size + 1)), .slice A' l'.length c'] 29)).alloc o1).rowIs w7.heap.size 29 2 (two (.map (some (w7.heap.size + 1))) (.slice A' l'.length c'))) := Lib.hid fun o1 => (row2 (.map (some (w7.heap.size + 1))) (.slice A' l'.length c') 29 w7).alloc o1
    go_wp2_with (at_mapUpdate; refine wp_store _ rfl _ _ _ 26 rfl Tryf.underlying9 Tryf.underlying26 (w7.heap.size + 1) 0 (fun _ => none) rfl (RC.out _) (by unfold maxLen; omega) p rfl (by unfold maxLen; omega) (.bool true) rfl ?_; intro w9 hm9 hg9; have T14 : w9.rowIs w7.heap.size 29 2 (two (.map (some (w7.heap.size + 1))) (.slice A' l'.length c')) := (RT.out _).of_block (hg9.block _ (by simp only [World.size_alloc]; omega) (by intro e; have := Option.some.inj e; omega)); have d0 := T14.cell (i := 0) (by omega); have d1 := T14.cell (i := 1) (by omega); simp only [two] at d0 d1; have HM9 := Lib.hid hm9; have HG9 := Lib.hid hg9; clear T14 hm9 hg9)
    refine (hit7 (.slice A' l'.length c') p kd b w9 (w7.heap.size + 1) _ _ HK.out HM9.out (by simp [upd]) hp).mono ?_
    rintro e w10 ⟨rfl, hb10⟩
    have BL9 := Lib.hid (((BL7.out.alloc BL7.out.size _).alloc (by simp only [World.size_alloc]; exact Nat.le_succ_of_le BL7.out.size) _).grown HG9.out (by simp only [World.size_alloc]; exact Nat.le_succ_of_le (Nat.le_succ_of_le BL7.out.size)) (fun q e => by have := Option.some.inj e; have := BL7.out.size; omega))
    have BL10 := Lib.hid (below_join BL9.out BL9.out.size hb10)
    clear hb10
    have hk2 := HK.out
    cases b
    · go_wp2
      go_ret
      exact ⟨rfl, BL10.out⟩
    · go_wp2
      go_ret
      exact ⟨rfl, BL10.out⟩
  · rcases HM'.out with h | ⟨q', n, f, h, hq1, hn1, hm7⟩
    · cases h
    injection h with h
    have hqq := Option.some.inj h
    subst hqq
    rename_i q
    have hq7 := hm7.lt
    go_wp2_with (at_mapUpdate; refine wp_store _ rfl _ _ _ 26 rfl Tryf.underlying9 Tryf.underlying26 q n f rfl (hm7.alloc _) (by unfold maxLen; omega) p rfl (by unfold maxLen; omega) (.bool true) rfl ?_; intro w9 hm9 hg9; have T14 : w9.rowIs w7.heap.size 29 2 (two (.map (some q)) (.slice A' l'.length c')) := (row2 (.map (some q)) (.slice A' l'.length c') 29 w7).of_block (hg9.block _ (by simp only [World.size_alloc]; omega) (by intro e; have := Option.some.inj e; omega)); have d0 := T14.cell (i := 0) (by omega); have d1 := T14.cell (i := 1) (by omega); simp only [two] at d0 d1; have HM9 := Lib.hid hm9; have HG9 := Lib.hid hg9; clear T14 hm9 hg9)
    refine (hit7 (.slice A' l'.length c') p kd b w9 q _ _ HK.out HM9.out (by simp [upd]) hp).mono ?_
    rintro e w10 ⟨rfl, hb10⟩
    have BL9 := Lib.hid ((BL7.out.alloc BL7.out.size _).grown HG9.out (by simp only [World.size_alloc]; exact Nat.le_succ_of_le BL7.out.size) (fun g e => by have := Option.some.inj e; have := BL6.out.size; omega))
    have BL10 := Lib.hid (below_join BL9.out BL9.out.size hb10)
    clear hb10
    have hk2 := HK.out
    cases b
    · go_wp2
      go_ret
      exact ⟨rfl, BL10.out⟩
    · go_wp2
      go_ret
      exact ⟨rfl, BL10.out⟩
set_option maxRecDepth 20000 in
theorem walk (a0 : Option Addr) (len0 cap0 : Nat) (z0 : List ByteArray) (a1 : Option Addr) (len1 cap1 : Nat) (z1 : List ByteArray) (a2 : Option Addr) (len2 cap2 : Nat) (z2 : List ByteArray) (a3 : ByteArray) (a4 : Int) (w : World) (w0 : IsStrs w a0 len0 cap0 z0) (w1 : IsStrs w a1 len1 cap1 z1) (w2 : IsStrs w a2 len2 cap2 z2) (w3 : a3.size ≤ maxLen) (w4 : (Lit.int .u8 a4).wf = true) :
    Calls Tryf.prog 3 #[.slice a0 len0 cap0, .slice a1 len1 cap1, .slice a2 len2 cap2, .string a3, .int .u8 a4] w fun e w' => e = .returned (.bool true) ∧ Below w.heap.size w w' := by
  obtain ⟨⟨l0, L0, r0, m0⟩, e0, g0⟩ := rd_of_strs w0
  obtain ⟨⟨l1, L1, r1, m1⟩, e1, g1⟩ := rd_of_strs w1
  obtain ⟨⟨l2, L2, r2, m2⟩, e2, g2⟩ := rd_of_strs w2
  have hy := bytes_any a0 len0 cap0 l0 a1 len1 cap1 l1 a2 len2 cap2 l2 a3 (.int .u8 a4) w L0 g0 r0 m0 L1 g1 r1 m1 L2 g2 r2 m2 w3
  by_cases hz : (len0 + tot l0) + (len1 + tot l1) + (len2 + tot l2) + a3.size ≤ 1048576
  · have hz' := hz
    have k0 : ∀ s ∈ l0, s.size ≤ 1048576 := by
      intro s hs
      obtain ⟨i, hi, rfl⟩ := List.getElem_of_mem hs
      have := tot_mem l0 i hi
      omega
    have k1 : ∀ s ∈ l1, s.size ≤ 1048576 := by
      intro s hs
      obtain ⟨i, hi, rfl⟩ := List.getElem_of_mem hs
      have := tot_mem l1 i hi
      omega
    have k2 : ∀ s ∈ l2, s.size ≤ 1048576 := by
      intro s hs
      obtain ⟨i, hi, rfl⟩ := List.getElem_of_mem hs
      have := tot_mem l2 i hi
      omega
    have hy' : Calls Tryf.prog 4 #[.slice a0 len0 cap0, .slice a1 len1 cap1, .slice a2 len2 cap2, .string a3, .int .u8 a4] w (Bd True w) := hy.mono fun e w' h => by
      obtain ⟨b, h1, _, h3⟩ := h
      exact ⟨b, h1, fun _ => trivial, h3⟩
    exact main a0 a1 a2 len0 cap0 len1 cap1 len2 cap2 l0 l1 l2 a3 a4 _ w rfl L0 L1 L2 (by omega) (by omega) (by omega) r0 r1 r2 k0 k1 k2 (by omega) hy'
  · have H := Lib.hid hy
    have HZ := Lib.hid hz
    clear hy hz w0 w1 w2 L0 r0 m0 e0 g0 L1 r1 m1 e1 g1 L2 r2 m2 e2 g2
    go_enter Tryf.func3, Tryf.ntmps3
    go_wp2_with fail
    refine H.out.mono ?_
    rintro e w' ⟨b, rfl, hb, rfl⟩
    cases b
    · clear hb
      go_wp2
      go_ret
      exact ⟨rfl, Below.refl _ _⟩
    · exact absurd (hb rfl) HZ.out
end Go.Proofs.YtcfhlgimbipgcaaFmt.fnIsExternalEntryPointNeverCatchAllAlways
