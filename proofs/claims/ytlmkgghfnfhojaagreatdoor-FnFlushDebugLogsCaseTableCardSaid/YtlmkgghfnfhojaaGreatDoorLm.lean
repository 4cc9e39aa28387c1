/- Done and AddMsg by contracts: any number of messages, none of which has a location. Conditions: the log is free; at most 2^22 messages. -/
import Derived.Test.YtlmkgghfnfhojaaGreatDoorLk
namespace Go.Proofs.YtlmkgghfnfhojaaGreatDoor.Lm
open Go.RowKit Go.Deep Go.MuLone Go.Proofs.YtlmkgghfnfhojaaGreatDoor.Base Go.Proofs.YtlmkgghfnfhojaaGreatDoor.Sls Go.Proofs.YtlmkgghfnfhojaaGreatDoor.Lk
set_option linter.unusedVariables false
theorem own_to {w w' : World} {base n : Nat} {v : Value} {xs : List Value} (ho : w.ownsRow base 48 8 v n xs) (hq : ∀ q, v.ownBlock = some q → w'.heap[q]? = w.heap[q]?) : w'.ownsRow base 48 8 v n xs := by
  refine ⟨ho.1, ?_⟩
  rcases ho.2 with h0 | ⟨g, c, cur, h0, h1, h2, h3⟩
  · exact .inl h0
  · exact .inr ⟨g, c, cur, h0, h1, (hq g (by rw [h0]; rfl)).trans h2, h3⟩
theorem mu_zero {w : World} {M : Nat} (h : w.heap[M]? = some (.cells #[.int .i32 1, .int .u32 0] 127 (0, 0))) : (w.setCell ⟨M, 0, none⟩ (.int .i32 0)).heap[M]? = some (.cells #[.int .i32 0, .int .u32 0] 127 (0, 0)) := by simp [World.setCell, Array.getElem?_modify, h]
set_option maxRecDepth 20000 in
/-- Done: the messages as they are. -/
theorem doneF (K M E S : Nat) (kn : Int) (eb : Bool) (base : Nat) (v : Value) (ms : List Ms) (w : World) (h : Lg w K M E S kn eb base v ms) (hm : ms.length ≤ 4194304) :
    Calls Tryz.prog 23 #[ptr M, ptr S] w fun e w' => e = .returned v ∧ Lg w' K M E S kn eb base v ms ∧ (∀ q, q ≠ M → q < w.heap.size → w'.heap[q]? = w.heap[q]?) ∧ ∀ B, B ≤ M → B ≤ w.heap.size → Below B w w' := by
  obtain ⟨A, c, rfl⟩ := h.form
  have kM := (Array.getElem?_eq_some_iff.1 h.m).1
  have c0 : w.cell? ⟨M, 0, none⟩ = some (.int .i32 0) := by simp [World.cell?, h.m]
  have f0 : w.frozen? ⟨M, 0, none⟩ = false := by simp [World.frozen?, h.m]
  have s0 : w.cell? ⟨S, 0, none⟩ = some (.slice A ms.length c) := by simp [World.cell?, h.s]
  have m1 : (w.setCell ⟨M, 0, none⟩ (.int .i32 1)).heap[M]? = some (.cells #[.int .i32 1, .int .u32 0] 127 (0, 0)) := by simp [World.setCell, Array.getElem?_modify, h.m]
  have o1 : (w.setCell ⟨M, 0, none⟩ (.int .i32 1)).ownsRow base 48 8 (.slice A ms.length c) ms.length (flat ms) := own_to h.row (fun q hq => blk_setCell_other _ _ _ _ (by have := (h.row.lt q hq).1; have := h.mb; show q ≠ M; omega))
  have HS := Lib.hid (stableF A c base ms _ o1 hm)
  have n3 := h.sm
  have HL := Lib.hid h; have HM1 := Lib.hid m1
  clear o1 m1 h
  unfold ptr
  go_enter_defers Tryz.func23, Tryz.ntmps23
  go_wp2_with (first | (go_at_call 19; refine (lock_free Tryz.muLib ⟨M, 0, none⟩ _ c0 f0).mono ?_; rintro e w' ⟨rfl, rfl⟩) | (go_at_call 24; refine HS.out.mono ?_; rintro e w7 ⟨rfl, h7⟩; have H7 := Lib.hid h7; clear h7; have s7 : w7.cell? ⟨S, 0, none⟩ = some (.slice A ms.length c) := (World.cell?_of_block (H7.out.block S (by have := HL.out.sb; have := HL.out.bs; simp; omega))).trans ((World.cell?_of_block (blk_setCell_other _ _ _ _ HL.out.sm)).trans s0)) | fail)
  refine leaves_cons (f := 20) (args := #[.pointer (some ⟨M, 0, none⟩)]) (by simp) (by simp [go_sem]) ?_
  have m7 : w7.heap[M]? = some (.cells #[.int .i32 1, .int .u32 0] 127 (0, 0)) := (H7.out.block M (by simp; omega)).trans HM1.out
  refine (unlock_deferred Tryz.muLib ⟨M, 0, none⟩ .returning _ ?_ ?_).mono ?_
  · simp [World.cell?, m7]
  · simp [World.frozen?, m7]
  rintro e u' w'' ⟨rfl, rfl, rfl⟩
  have far : ∀ q, q ≠ M → q < w.heap.size → (w7.setCell ⟨M, 0, none⟩ (.int .i32 0)).heap[q]? = w.heap[q]? := fun q h1 h2 => (blk_setCell_other _ _ _ _ h1).trans ((H7.out.block q (by simp; omega)).trans (blk_setCell_other _ _ _ _ h1))
  have hL := HL.out
  have z7 : w.heap.size ≤ w7.heap.size := by have := H7.out.size; simpa using this
  have hbs := hL.bs
  refine ⟨_, results_tmp rfl _ _ _, rfl, ⟨(far K hL.km (by have := hL.kb; omega)).trans hL.k, mu_zero m7, (far E hL.em (by have := hL.eb'; omega)).trans hL.e, (far S hL.sm (by have := hL.sb; omega)).trans hL.s, own_to hL.row (fun q hq => far q (by have := (hL.row.lt q hq).1; have := hL.mb; omega) (hL.row.lt q hq).2), hL.kb, hL.mb, hL.eb', hL.sb, by simpa using Nat.le_trans hbs z7, hL.km, hL.em, hL.sm, hL.ks, hL.es, hL.ke⟩, far, fun B h1 h2 => ?_⟩
  exact ((((Below.refl B w).setCell h1 _).trans (H7.out.mono (by simpa using h2)))).setCell h1 _
theorem infoM : (Tryz.prog.info? 48).map (fun i => (i.zero, i.size)) = some (some (.agg #[.slice none 0 0, .string { data := #[] }, .nilIface, .pointer none, .string { data := #[] }, .bool false, .int .u8 0, .int .u8 0]), 8) := by kernel_rfl
theorem bytesM : (Tryz.prog.info? 48).map (fun i => decide (i.bytes ≤ 1024)) = some true := by kernel_rfl
set_option maxRecDepth 20000 in
set_option maxHeartbeats 2000000 in
/-- AddMsg (kind of the log 0, kind of the message 4): one message more. -/
theorem add_0_4 (K M E S : Nat) (eb : Bool) (base : Nat) (v : Value) (ms : List Ms) (nA : Option Addr) (nn nc : Nat) (pl tx : ByteArray) (db : Bool) (id : Int) (w : World) (h : Lg w K M E S 0 eb base v ms) (hm : ms.length < 4194304) :
    Calls Tryz.prog 18 #[.agg #[.slice nA nn nc, .string pl, .nilIface, .pointer none, .string tx, .bool db, .int .u8 4, .int .u8 id], ptr K, ptr M, ptr E, ptr S] w fun e w' => e = .returned (.tuple #[]) ∧ (∃ v', Lg w' K M E S 0 eb base v' (ms ++ [⟨nA, nn, nc, pl, tx, db, 4, id⟩]) ∧ ∀ q, q < w.heap.size → v.ownBlock ≠ some q → v'.ownBlock ≠ some q) ∧ (∀ q, q ≠ M → q ≠ S → q ≠ E → v.ownBlock ≠ some q → q < w.heap.size → w'.heap[q]? = w.heap[q]?) ∧ ∀ B, B ≤ M → B ≤ S → B ≤ E → B ≤ base → Below B w w' := by
  obtain ⟨A, c, rfl⟩ := h.form
  have hL := h
  have hbs := h.bs
  have kM : M < w.heap.size := by have := h.mb; omega
  have kS : S < w.heap.size := by have := h.sb; omega
  have kK : K < w.heap.size := by have := h.kb; omega
  have kE : E < w.heap.size := by have := h.eb'; omega
  have c0 : w.cell? ⟨M, 0, none⟩ = some (.int .i32 0) := by simp [World.cell?, h.m]
  have f0 : w.frozen? ⟨M, 0, none⟩ = false := by simp [World.frozen?, h.m]
  have s0 : w.cell? ⟨S, 0, none⟩ = some (.slice A ms.length c) := by simp [World.cell?, h.s]
  have g0 : w.frozen? ⟨S, 0, none⟩ = false := by simp [World.frozen?, h.s]
  have q0 : w.cell? ⟨K, 0, none⟩ = some (.int .u8 0) := by simp [World.cell?, h.k]
  have e0 : w.cell? ⟨E, 0, none⟩ = some (.bool eb) := by simp [World.cell?, h.e]
  have x0 : w.frozen? ⟨E, 0, none⟩ = false := by simp [World.frozen?, h.e]
  have c0' : ∀ o, (w.alloc o).cell? ⟨M, 0, none⟩ = some (.int .i32 0) := fun o => (World.cell?_of_block (blk_alloc_lt w o M kM)).trans c0
  have f0' : ∀ o, (w.alloc o).frozen? ⟨M, 0, none⟩ = false := fun o => (World.frozen?_of_block (blk_alloc_lt w o M kM)).trans f0
  have n1 := h.em; have n2 := h.es; have n3 := h.sm
  have n1' : M ≠ E := fun e => n1 e.symm
  have n2' : S ≠ E := fun e => n2 e.symm
  have HL := Lib.hid h
  obtain ⟨i0, hi, hz0, hz1⟩ : ∃ i, Tryz.prog.info? 48 = some i ∧ i.zero = some (.agg #[.slice none 0 0, .string { data := #[] }, .nilIface, .pointer none, .string { data := #[] }, .bool false, .int .u8 0, .int .u8 0]) ∧ i.size = 8 := by
    have e := infoM
    cases hh : Tryz.prog.info? 48 with
    | none => rw [hh] at e; cases e
    | some i =>
      rw [hh] at e
      simp only [Option.map_some, Option.some.injEq, Prod.mk.injEq] at e
      exact ⟨i, rfl, e.1, e.2⟩
  have hb : i0.bytes ≤ 1024 := by
    have e := bytesM
    rw [hi] at e
    simpa using e
  have HI := Lib.hid hi; have Z0 := Lib.hid hz0; have Z1 := Lib.hid hz1; have ZB := Lib.hid hb
  unfold ptr
  clear h hL hi hz0 hz1 hb
  go_enter_defers Tryz.func18, Tryz.ntmps18
  go_wp2_with (first | (go_at_call 19; refine (lock_free Tryz.muLib ⟨M, 0, none⟩ _ (c0' _) (f0' _)).mono ?_; rintro e w' ⟨rfl, rfl⟩) | (refine wpList_append_own_at _ rfl _ _ 132 rfl base 48 i0 _ 8 i0.bytes Tryz.underlying132 HI.out Z0.out Z1.out rfl rfl (by omega) (.slice A ms.length c) ms.length (flat ms) rfl ?_ ⟨w.heap.size + 1, 0, none⟩ 1 1 [.slice nA nn nc, .string pl, .nilIface, .pointer none, .string tx, .bool db, .int .u8 4, .int .u8 id] rfl (by rfl) ?_ ?_ (by unfold maxLen; omega) (by have := ZB.out; have : (ms.length + 1) * i0.bytes ≤ 4194304 * 1024 := Nat.mul_le_mul (by omega) this; omega) ?_ ?_) | fail)
  · refine own_to HL.out.row (fun q hq => ?_)
    have hlt := HL.out.row.lt q hq
    have := HL.out.mb; have := HL.out.eb'
    repeat (first | rw [blk_alloc_lt _ _ _ (by simp; omega)] | rw [blk_setCell_other _ _ _ _ (by show q ≠ M; omega)] | rw [blk_setCell_other _ _ _ _ (by show q ≠ E; omega)])
  · exact World.news_of_block (cs := #[.slice nA nn nc, .string pl, .nilIface, .pointer none, .string tx, .bool db, .int .u8 4, .int .u8 id]) (t := 48) (fr := (0, 0)) (at_new _ _ _ (by simp))
  · intro u hu
    simp only [List.mem_cons, List.not_mem_nil, or_false] at hu
    rcases hu with rfl | rfl | rfl | rfl | rfl | rfl | rfl | rfl <;> rfl
  · simp; omega
  · intro v2 w5 o5 g5 _ a5
    have e5 : ∀ q, q < w.heap.size → (Value.slice A ms.length c).ownBlock ≠ some q → w5.heap[q]? = ((w.setCell ⟨M, 0, none⟩ (.int .i32 1))).heap[q]? := fun q hq hne => (g5.block q (by simp; omega) (fun e => hne e.symm)).trans (by repeat (first | rw [blk_alloc_lt _ _ _ (by simp; omega)] | rfl | (simp only [setCell_alloc_old])))
    have nM : (Value.slice A ms.length c).ownBlock ≠ some M := fun e => by have := (HL.out.row.lt M e).1; have := HL.out.mb; omega
    have nS : (Value.slice A ms.length c).ownBlock ≠ some S := fun e => by have := (HL.out.row.lt S e).1; have := HL.out.sb; omega
    have nE : (Value.slice A ms.length c).ownBlock ≠ some E := fun e => by have := (HL.out.row.lt E e).1; have := HL.out.eb'; omega
    have nK : (Value.slice A ms.length c).ownBlock ≠ some K := fun e => by have := (HL.out.row.lt K e).1; have := HL.out.kb; omega
    have s5 : w5.heap[S]? = some (.cells #[.slice A ms.length c] 132 (0, 0)) := (e5 S kS nS).trans (by simp [World.setCell, Array.getElem?_modify, HL.out.s, Ne.symm n3])
    have m5 : w5.heap[M]? = some (.cells #[.int .i32 1, .int .u32 0] 127 (0, 0)) := (e5 M kM nM).trans (by simp [World.setCell, Array.getElem?_modify, HL.out.m])
    have x5 : w5.heap[E]? = some (.cells #[.bool eb] 4 (0, 0)) := (e5 E kE nE).trans (by simp [World.setCell, Array.getElem?_modify, HL.out.e, n1'])
    have s5c : w5.cell? ⟨S, 0, none⟩ = some (.slice A ms.length c) := by simp [World.cell?, s5]
    have s5f : w5.frozen? ⟨S, 0, none⟩ = false := by simp [World.frozen?, s5]
    have z5 : w.heap.size + 2 ≤ w5.heap.size := by have := g5.size; simp at this; omega
    have l5 : ∀ k, v2.ownBlock = some k → base ≤ k := fun k hk => (o5.lt k hk).1
    obtain ⟨A2, c2, rfl⟩ : ∃ A2 c2, v2 = .slice A2 (ms.length + 1) c2 := by
      rcases o5.2 with ⟨h0, h1⟩ | ⟨g, c2, cur, h0, _⟩
      · omega
      · exact ⟨_, _, h0⟩
    have HE5 := Lib.hid e5; have HS5 := Lib.hid s5; have HM5 := Lib.hid m5; have HX5 := Lib.hid x5; have HG5 := Lib.hid g5; have HO5 := Lib.hid o5; have HA5 := Lib.hid a5; have HL5 := Lib.hid l5; have HZ5 := Lib.hid z5
    clear o5 g5 e5 s5 m5 x5 a5 l5 z5
    go_wp2
    refine leaves_cons (f := 20) (args := #[.pointer (some ⟨M, 0, none⟩)]) (by simp) (by simp [go_sem]) ?_
    have m6 : (w5.setCell ⟨S, 0, none⟩ (.slice A2 (ms.length + 1) c2)).heap[M]? = some (.cells #[.int .i32 1, .int .u32 0] 127 (0, 0)) := (blk_setCell_other _ _ _ _ (fun e => n3 e.symm)).trans HM5.out
    refine (unlock_deferred Tryz.muLib ⟨M, 0, none⟩ .returning _ ?_ ?_).mono ?_
    · simp [World.cell?, m6]
    · simp [World.frozen?, m6]
    rintro e u' w'' ⟨rfl, rfl, rfl⟩
    have far : ∀ q, q ≠ M → q ≠ S → q ≠ E → (Value.slice A ms.length c).ownBlock ≠ some q → q < w.heap.size → ((w5.setCell ⟨S, 0, none⟩ (.slice A2 (ms.length + 1) c2)).setCell ⟨M, 0, none⟩ (.int .i32 0)).heap[q]? = w.heap[q]? := fun q h1 h2 h3 h4 h5 => (blk_setCell_other _ _ _ _ h1).trans ((blk_setCell_other _ _ _ _ h2).trans ((HE5.out q h5 h4).trans (blk_setCell_other _ _ _ _ h1)))
    have hL := HL.out
    refine ⟨_, results_none rfl _ _ _, rfl, ⟨.slice A2 (ms.length + 1) c2, ⟨(far K hL.km hL.ks hL.ke nK kK).trans hL.k, mu_zero m6, ((blk_setCell_other _ _ _ _ n1).trans (blk_setCell_other _ _ _ _ n2)).trans HX5.out, ?_, ?_, hL.kb, hL.mb, hL.eb', hL.sb, by have := HZ5.out; simp; omega, hL.km, hL.em, hL.sm, hL.ks, hL.es, hL.ke⟩, fun q hq hne e => ?_⟩, far, fun B h1 h2 h3 h4 => ?_⟩
    · rw [blk_setCell_other _ _ _ _ n3]
      simp [World.setCell, Array.getElem?_modify, HS5.out]
    · rw [List.length_append, flat_snoc]
      refine own_to HO5.out (fun q hq => ?_)
      have := HL5.out q hq; have := hL.mb; have := hL.sb
      rw [blk_setCell_other _ _ _ _ (by show q ≠ M; omega), blk_setCell_other _ _ _ _ (by show q ≠ S; omega)]
    · rcases HA5.out with h | h
      · exact hne (h.symm.trans e)
      · have h6 := h.symm.trans e
        simp at h6
        omega
    · have b1 : Below B w ((w.setCell ⟨M, 0, none⟩ (.int .i32 1))) := (Below.refl B w).setCell h1 _
      have b2 := ((b1.alloc (by simp; omega) _).alloc (by simp; omega) _).grown HG5.out (by simp; omega) (fun q e => by have := (hL.row.lt q e).1; omega)
      exact (b2.setCell h2 _).setCell h1 _
set_option maxRecDepth 20000 in
set_option maxHeartbeats 2000000 in
/-- AddMsg (kind of the log 0, kind of the message 5): one message more. -/
theorem add_0_5 (K M E S : Nat) (eb : Bool) (base : Nat) (v : Value) (ms : List Ms) (nA : Option Addr) (nn nc : Nat) (pl tx : ByteArray) (db : Bool) (id : Int) (w : World) (h : Lg w K M E S 0 eb base v ms) (hm : ms.length < 4194304) :
    Calls Tryz.prog 18 #[.agg #[.slice nA nn nc, .string pl, .nilIface, .pointer none, .string tx, .bool db, .int .u8 5, .int .u8 id], ptr K, ptr M, ptr E, ptr S] w fun e w' => e = .returned (.tuple #[]) ∧ (∃ v', Lg w' K M E S 0 eb base v' (ms ++ [⟨nA, nn, nc, pl, tx, db, 5, id⟩]) ∧ ∀ q, q < w.heap.size → v.ownBlock ≠ some q → v'.ownBlock ≠ some q) ∧ (∀ q, q ≠ M → q ≠ S → q ≠ E → v.ownBlock ≠ some q → q < w.heap.size → w'.heap[q]? = w.heap[q]?) ∧ ∀ B, B ≤ M → B ≤ S → B ≤ E → B ≤ base → Below B w w' := by
  obtain ⟨A, c, rfl⟩ := h.form
  have hL := h
  have hbs := h.bs
  have kM : M < w.heap.size := by have := h.mb; omega
  have kS : S < w.heap.size := by have := h.sb; omega
  have kK : K < w.heap.size := by have := h.kb; omega
  have kE : E < w.heap.size := by have := h.eb'; omega
  have c0 : w.cell? ⟨M, 0, none⟩ = some (.int .i32 0) := by simp [World.cell?, h.m]
  have f0 : w.frozen? ⟨M, 0, none⟩ = false := by simp [World.frozen?, h.m]
  have s0 : w.cell? ⟨S, 0, none⟩ = some (.slice A ms.length c) := by simp [World.cell?, h.s]
  have g0 : w.frozen? ⟨S, 0, none⟩ = false := by simp [World.frozen?, h.s]
  have q0 : w.cell? ⟨K, 0, none⟩ = some (.int .u8 0) := by simp [World.cell?, h.k]
  have e0 : w.cell? ⟨E, 0, none⟩ = some (.bool eb) := by simp [World.cell?, h.e]
  have x0 : w.frozen? ⟨E, 0, none⟩ = false := by simp [World.frozen?, h.e]
  have c0' : ∀ o, (w.alloc o).cell? ⟨M, 0, none⟩ = some (.int .i32 0) := fun o => (World.cell?_of_block (blk_alloc_lt w o M kM)).trans c0
  have f0' : ∀ o, (w.alloc o).frozen? ⟨M, 0, none⟩ = false := fun o => (World.frozen?_of_block (blk_alloc_lt w o M kM)).trans f0
  have n1 := h.em; have n2 := h.es; have n3 := h.sm
  have n1' : M ≠ E := fun e => n1 e.symm
  have n2' : S ≠ E := fun e => n2 e.symm
  have HL := Lib.hid h
  obtain ⟨i0, hi, hz0, hz1⟩ : ∃ i, Tryz.prog.info? 48 = some i ∧ i.zero = some (.agg #[.slice none 0 0, .string { data := #[] }, .nilIface, .pointer none, .string { data := #[] }, .bool false, .int .u8 0, .int .u8 0]) ∧ i.size = 8 := by
    have e := infoM
    cases hh : Tryz.prog.info? 48 with
    | none => rw [hh] at e; cases e
    | some i =>
      rw [hh] at e
      simp only [Option.map_some, Option.some.injEq, Prod.mk.injEq] at e
      exact ⟨i, rfl, e.1, e.2⟩
  have hb : i0.bytes ≤ 1024 := by
    have e := bytesM
    rw [hi] at e
    simpa using e
  have HI := Lib.hid hi; have Z0 := Lib.hid hz0; have Z1 := Lib.hid hz1; have ZB := Lib.hid hb
  unfold ptr
  clear h hL hi hz0 hz1 hb
  go_enter_defers Tryz.func18, Tryz.ntmps18
  go_wp2_with (first | (go_at_call 19; refine (lock_free Tryz.muLib ⟨M, 0, none⟩ _ (c0' _) (f0' _)).mono ?_; rintro e w' ⟨rfl, rfl⟩) | (refine wpList_append_own_at _ rfl _ _ 132 rfl base 48 i0 _ 8 i0.bytes Tryz.underlying132 HI.out Z0.out Z1.out rfl rfl (by omega) (.slice A ms.length c) ms.length (flat ms) rfl ?_ ⟨w.heap.size + 1, 0, none⟩ 1 1 [.slice nA nn nc, .string pl, .nilIface, .pointer none, .string tx, .bool db, .int .u8 5, .int .u8 id] rfl (by rfl) ?_ ?_ (by unfold maxLen; omega) (by have := ZB.out; have : (ms.length + 1) * i0.bytes ≤ 4194304 * 1024 := Nat.mul_le_mul (by omega) this; omega) ?_ ?_) | fail)
  · refine own_to HL.out.row (fun q hq => ?_)
    have hlt := HL.out.row.lt q hq
    have := HL.out.mb; have := HL.out.eb'
    repeat (first | rw [blk_alloc_lt _ _ _ (by simp; omega)] | rw [blk_setCell_other _ _ _ _ (by show q ≠ M; omega)] | rw [blk_setCell_other _ _ _ _ (by show q ≠ E; omega)])
  · exact World.news_of_block (cs := #[.slice nA nn nc, .string pl, .nilIface, .pointer none, .string tx, .bool db, .int .u8 5, .int .u8 id]) (t := 48) (fr := (0, 0)) (at_new _ _ _ (by simp))
  · intro u hu
    simp only [List.mem_cons, List.not_mem_nil, or_false] at hu
    rcases hu with rfl | rfl | rfl | rfl | rfl | rfl | rfl | rfl <;> rfl
  · simp; omega
  · intro v2 w5 o5 g5 _ a5
    have e5 : ∀ q, q < w.heap.size → (Value.slice A ms.length c).ownBlock ≠ some q → w5.heap[q]? = ((w.setCell ⟨M, 0, none⟩ (.int .i32 1))).heap[q]? := fun q hq hne => (g5.block q (by simp; omega) (fun e => hne e.symm)).trans (by repeat (first | rw [blk_alloc_lt _ _ _ (by simp; omega)] | rfl | (simp only [setCell_alloc_old])))
    have nM : (Value.slice A ms.length c).ownBlock ≠ some M := fun e => by have := (HL.out.row.lt M e).1; have := HL.out.mb; omega
    have nS : (Value.slice A ms.length c).ownBlock ≠ some S := fun e => by have := (HL.out.row.lt S e).1; have := HL.out.sb; omega
    have nE : (Value.slice A ms.length c).ownBlock ≠ some E := fun e => by have := (HL.out.row.lt E e).1; have := HL.out.eb'; omega
    have nK : (Value.slice A ms.length c).ownBlock ≠ some K := fun e => by have := (HL.out.row.lt K e).1; have := HL.out.kb; omega
    have s5 : w5.heap[S]? = some (.cells #[.slice A ms.length c] 132 (0, 0)) := (e5 S kS nS).trans (by simp [World.setCell, Array.getElem?_modify, HL.out.s, Ne.symm n3])
    have m5 : w5.heap[M]? = some (.cells #[.int .i32 1, .int .u32 0] 127 (0, 0)) := (e5 M kM nM).trans (by simp [World.setCell, Array.getElem?_modify, HL.out.m])
    have x5 : w5.heap[E]? = some (.cells #[.bool eb] 4 (0, 0)) := (e5 E kE nE).trans (by simp [World.setCell, Array.getElem?_modify, HL.out.e, n1'])
    have s5c : w5.cell? ⟨S, 0, none⟩ = some (.slice A ms.length c) := by simp [World.cell?, s5]
    have s5f : w5.frozen? ⟨S, 0, none⟩ = false := by simp [World.frozen?, s5]
    have z5 : w.heap.size + 2 ≤ w5.heap.size := by have := g5.size; simp at this; omega
    have l5 : ∀ k, v2.ownBlock = some k → base ≤ k := fun k hk => (o5.lt k hk).1
    obtain ⟨A2, c2, rfl⟩ : ∃ A2 c2, v2 = .slice A2 (ms.length + 1) c2 := by
      rcases o5.2 with ⟨h0, h1⟩ | ⟨g, c2, cur, h0, _⟩
      · omega
      · exact ⟨_, _, h0⟩
    have HE5 := Lib.hid e5; have HS5 := Lib.hid s5; have HM5 := Lib.hid m5; have HX5 := Lib.hid x5; have HG5 := Lib.hid g5; have HO5 := Lib.hid o5; have HA5 := Lib.hid a5; have HL5 := Lib.hid l5; have HZ5 := Lib.hid z5
    clear o5 g5 e5 s5 m5 x5 a5 l5 z5
    go_wp2
    refine leaves_cons (f := 20) (args := #[.pointer (some ⟨M, 0, none⟩)]) (by simp) (by simp [go_sem]) ?_
    have m6 : (w5.setCell ⟨S, 0, none⟩ (.slice A2 (ms.length + 1) c2)).heap[M]? = some (.cells #[.int .i32 1, .int .u32 0] 127 (0, 0)) := (blk_setCell_other _ _ _ _ (fun e => n3 e.symm)).trans HM5.out
    refine (unlock_deferred Tryz.muLib ⟨M, 0, none⟩ .returning _ ?_ ?_).mono ?_
    · simp [World.cell?, m6]
    · simp [World.frozen?, m6]
    rintro e u' w'' ⟨rfl, rfl, rfl⟩
    have far : ∀ q, q ≠ M → q ≠ S → q ≠ E → (Value.slice A ms.length c).ownBlock ≠ some q → q < w.heap.size → ((w5.setCell ⟨S, 0, none⟩ (.slice A2 (ms.length + 1) c2)).setCell ⟨M, 0, none⟩ (.int .i32 0)).heap[q]? = w.heap[q]? := fun q h1 h2 h3 h4 h5 => (blk_setCell_other _ _ _ _ h1).trans ((blk_setCell_other _ _ _ _ h2).trans ((HE5.out q h5 h4).trans (blk_setCell_other _ _ _ _ h1)))
    have hL := HL.out
    refine ⟨_, results_none rfl _ _ _, rfl, ⟨.slice A2 (ms.length + 1) c2, ⟨(far K hL.km hL.ks hL.ke nK kK).trans hL.k, mu_zero m6, ((blk_setCell_other _ _ _ _ n1).trans (blk_setCell_other _ _ _ _ n2)).trans HX5.out, ?_, ?_, hL.kb, hL.mb, hL.eb', hL.sb, by have := HZ5.out; simp; omega, hL.km, hL.em, hL.sm, hL.ks, hL.es, hL.ke⟩, fun q hq hne e => ?_⟩, far, fun B h1 h2 h3 h4 => ?_⟩
    · rw [blk_setCell_other _ _ _ _ n3]
      simp [World.setCell, Array.getElem?_modify, HS5.out]
    · rw [List.length_append, flat_snoc]
      refine own_to HO5.out (fun q hq => ?_)
      have := HL5.out q hq; have := hL.mb; have := hL.sb
      rw [blk_setCell_other _ _ _ _ (by show q ≠ M; omega), blk_setCell_other _ _ _ _ (by show q ≠ S; omega)]
    · rcases HA5.out with h | h
      · exact hne (h.symm.trans e)
      · have h6 := h.symm.trans e
        simp at h6
        omega
    · have b1 : Below B w ((w.setCell ⟨M, 0, none⟩ (.int .i32 1))) := (Below.refl B w).setCell h1 _
      have b2 := ((b1.alloc (by simp; omega) _).alloc (by simp; omega) _).grown HG5.out (by simp; omega) (fun q e => by have := (hL.row.lt q e).1; omega)
      exact (b2.setCell h2 _).setCell h1 _
end Go.Proofs.YtlmkgghfnfhojaaGreatDoor.Lm
