/- AddMsg by its contract: one message, neither verbose nor debug nor an error, onto a log that holds none. -/
import Derived.Test.YtlhdihdlkejjdaaFmtDfA
import Derived.Laws.AppendOwn
import Derived.Maps.AppendAt
import Derived.Deep.AppendLies
namespace Go.Proofs.YtlhdihdlkejjdaaFmt.DfB
open Go.RowKit Go.Deep Go.MuLone Go.Proofs.YtlhdihdlkejjdaaFmt.Base Go.Proofs.YtlhdihdlkejjdaaFmt.Sls Go.Proofs.YtlhdihdlkejjdaaFmt.DfA
set_option linter.unusedVariables false
theorem info73 : (Tryf.prog.info? 73).map (fun i => (i.zero, i.size)) = some (some (.agg #[.slice none 0 0, .string { data := #[] }, .nilIface, .pointer none, .string { data := #[] }, .bool false, .int .u8 0, .int .u8 0]), 8) := by kernel_rfl
theorem bytes73 : (Tryf.prog.info? 73).map (fun i => decide (i.bytes ≤ 1024)) = some true := by kernel_rfl
theorem mu_zero {w : World} {M : Nat} (h : w.heap[M]? = some (.cells #[.int .i32 1, .int .u32 0] 66 (0, 0))) : (w.setCell ⟨M, 0, none⟩ (.int .i32 0)).heap[M]? = some (.cells #[.int .i32 0, .int .u32 0] 66 (0, 0)) := by simp [World.setCell, Array.getElem?_modify, h]
set_option maxRecDepth 20000 in
set_option maxHeartbeats 1000000 in
theorem add16 (K M E S : Nat) (pl tx : ByteArray) (lo : Option Addr) (db : Bool) (kd id : Int) (w : World) (h : Lg w K M E S (.slice none 0 0)) (hKM : K ≠ M) (hEM : E ≠ M) (hSM : S ≠ M) (hKS : K ≠ S) (hES : E ≠ S) (k5 : (kd == 5) = false) (k4 : (kd == 4) = false) (k0 : (kd == 0) = false) :
    Calls Tryf.prog 16 #[.agg #[.slice none 0 0, .string pl, .nilIface, .pointer lo, .string tx, .bool db, .int .u8 kd, .int .u8 id], ptr K, ptr M, ptr E, ptr S] w fun e w' => e = .returned (.tuple #[]) ∧ (∃ g c, Lg w' K M E S (.slice (some ⟨g, 0, none⟩) 1 c)) ∧ (∀ q, q ≠ M → q ≠ S → q < w.heap.size → w'.heap[q]? = w.heap[q]?) ∧ ∀ B, B ≤ M → B ≤ S → B ≤ w.heap.size → Below B w w' := by
  have kM := (Array.getElem?_eq_some_iff.1 h.m).1
  have kS := (Array.getElem?_eq_some_iff.1 h.s).1
  have kK := (Array.getElem?_eq_some_iff.1 h.k).1
  have kE := (Array.getElem?_eq_some_iff.1 h.e).1
  have c0 : w.cell? ⟨M, 0, none⟩ = some (.int .i32 0) := by simp [World.cell?, h.m]
  have f0 : w.frozen? ⟨M, 0, none⟩ = false := by simp [World.frozen?, h.m]
  have s0 : w.cell? ⟨S, 0, none⟩ = some (.slice none 0 0) := by simp [World.cell?, h.s]
  have g0 : w.frozen? ⟨S, 0, none⟩ = false := by simp [World.frozen?, h.s]
  have q0 : w.cell? ⟨K, 0, none⟩ = some (.int .u8 1) := by simp [World.cell?, h.k]
  have c0' : ∀ o, (w.alloc o).cell? ⟨M, 0, none⟩ = some (.int .i32 0) := fun o => (World.cell?_of_block (blk_alloc_lt w o M kM)).trans c0
  have f0' : ∀ o, (w.alloc o).frozen? ⟨M, 0, none⟩ = false := fun o => (World.frozen?_of_block (blk_alloc_lt w o M kM)).trans f0
  have HL := Lib.hid h
  obtain ⟨i0, hi, hz0, hz1⟩ : ∃ i, Tryf.prog.info? 73 = some i ∧ i.zero = some (.agg #[.slice none 0 0, .string { data := #[] }, .nilIface, .pointer none, .string { data := #[] }, .bool false, .int .u8 0, .int .u8 0]) ∧ i.size = 8 := by
    have e := info73
    cases hh : Tryf.prog.info? 73 with
    | none => rw [hh] at e; cases e
    | some i =>
      rw [hh] at e
      simp only [Option.map_some, Option.some.injEq, Prod.mk.injEq] at e
      exact ⟨i, rfl, e.1, e.2⟩
  have hb : i0.bytes ≤ 1024 := by
    have e := bytes73
    rw [hi] at e
    simpa using e
  have HI := Lib.hid hi; have Z0 := Lib.hid hz0; have Z1 := Lib.hid hz1; have ZB := Lib.hid hb
  unfold ptr
  clear h hi hz0 hz1 hb
  go_enter_defers Tryf.func16, Tryf.ntmps16
  go_wp2_with (first | (go_at_call 17; refine (lock_free Tryf.muLib ⟨M, 0, none⟩ _ (c0' _) (f0' _)).mono ?_; rintro e w' ⟨rfl, rfl⟩) | (refine wpList_append_own_at _ rfl _ _ 60 rfl w.heap.size 73 i0 _ 8 i0.bytes Tryf.underlying60 HI.out Z0.out Z1.out rfl rfl (by omega) (.slice none 0 0) 0 [] rfl ⟨rfl, .inl ⟨rfl, rfl⟩⟩ ⟨w.heap.size + 1, 0, none⟩ 1 1 [.slice none 0 0, .string pl, .nilIface, .pointer lo, .string tx, .bool db, .int .u8 kd, .int .u8 id] rfl (by rfl) ?_ ?_ (by unfold maxLen; omega) (by have := ZB.out; omega) ?_ ?_) | fail)
  · exact World.news_of_block (cs := #[.slice none 0 0, .string pl, .nilIface, .pointer lo, .string tx, .bool db, .int .u8 kd, .int .u8 id]) (t := 73) (fr := (0, 0)) (at_new _ _ _ (by simp))
  · intro u hu
    simp only [List.mem_cons, List.not_mem_nil, or_false] at hu
    rcases hu with rfl | rfl | rfl | rfl | rfl | rfl | rfl | rfl <;> rfl
  · simp; omega
  · intro v2 w5 o5 g5 _ _
    obtain ⟨g, cap, cur, rfl, hbg, hgb, _⟩ : ∃ g cap cur, v2 = .slice (some ⟨g, 0, none⟩) 1 cap ∧ w.heap.size ≤ g ∧ w5.heap[g]? = some (.cells cur 73 (0, 0)) ∧ True := by
      rcases o5.2 with ⟨_, h0⟩ | ⟨g, cap, cur, e1, e2, e3, _⟩
      · cases h0
      · exact ⟨g, cap, cur, e1, e2, e3, trivial⟩
    have e5 : ∀ q, q < w.heap.size → w5.heap[q]? = (w.setCell ⟨M, 0, none⟩ (.int .i32 1)).heap[q]? := fun q hq => (g5.block q (by simp; omega) (by intro e; cases e)).trans ((blk_alloc_lt _ _ _ (by simp; omega)).trans (blk_alloc_lt _ _ _ (by simp; omega)))
    have s5 : w5.heap[S]? = some (.cells #[.slice none 0 0] 60 (0, 0)) := (e5 S kS).trans ((blk_setCell_other _ _ _ _ hSM).trans HL.out.s)
    have s5c : w5.cell? ⟨S, 0, none⟩ = some (.slice none 0 0) := by simp [World.cell?, s5]
    have s5f : w5.frozen? ⟨S, 0, none⟩ = false := by simp [World.frozen?, s5]
    have m5 : w5.heap[M]? = some (.cells #[.int .i32 1, .int .u32 0] 66 (0, 0)) := (e5 M kM).trans (by simp [World.setCell, Array.getElem?_modify, HL.out.m])
    have HE5 := Lib.hid e5; have HS5 := Lib.hid s5; have HM5 := Lib.hid m5; have HG5 := Lib.hid g5
    clear o5 g5 e5 s5 m5 hgb
    go_wp2
    refine leaves_cons (f := 18) (args := #[.pointer (some ⟨M, 0, none⟩)]) (by simp) (by simp [go_sem]) ?_
    have m6 : (w5.setCell ⟨S, 0, none⟩ (.slice (some ⟨g, 0, none⟩) 1 cap)).heap[M]? = some (.cells #[.int .i32 1, .int .u32 0] 66 (0, 0)) := (blk_setCell_other _ _ _ _ (fun e => hSM e.symm)).trans HM5.out
    refine (unlock_deferred Tryf.muLib ⟨M, 0, none⟩ .returning _ ?_ ?_).mono ?_
    · simp [World.cell?, m6]
    · simp [World.frozen?, m6]
    rintro e u' w'' ⟨rfl, rfl, rfl⟩
    have far : ∀ q, q ≠ M → q ≠ S → q < w.heap.size → ((w5.setCell ⟨S, 0, none⟩ (.slice (some ⟨g, 0, none⟩) 1 cap)).setCell ⟨M, 0, none⟩ (.int .i32 0)).heap[q]? = w.heap[q]? := fun q h1 h2 h3 => (blk_setCell_other _ _ _ _ h1).trans ((blk_setCell_other _ _ _ _ h2).trans ((HE5.out q h3).trans (blk_setCell_other _ _ _ _ h1)))
    refine ⟨_, results_none rfl _ _ _, rfl, ⟨g, cap, ⟨(far K hKM hKS kK).trans HL.out.k, ?_, (far E hEM hES kE).trans HL.out.e, ?_⟩⟩, far, fun B h1 h2 h3 => ?_⟩
    · exact mu_zero m6
    · rw [blk_setCell_other _ _ _ _ hSM]
      simp [World.setCell, Array.getElem?_modify, HS5.out]
    · have := ((((Below.refl B w).setCell h1 _).alloc (by simpa using h3) _).alloc (by simp; omega) _).grown HG5.out (by simp; omega) (fun q e => by cases e)
      exact (this.setCell h2 _).setCell h1 _
end Go.Proofs.YtlhdihdlkejjdaaFmt.DfB
