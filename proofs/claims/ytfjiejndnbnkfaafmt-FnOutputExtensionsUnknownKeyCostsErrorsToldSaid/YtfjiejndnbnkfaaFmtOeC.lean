/- validateOutputExtensions by its contract: what the map holds at .js and at .css; as many messages as the map's errors. Conditions: lengths. -/
import Derived.Test.YtfjiejndnbnkfaaFmtOeB
import Derived.Deep.RegionHeld
import Derived.Deep.DeepCutAuto
namespace Go.Proofs.YtfjiejndnbnkfaaFmt.OeC
open Go.RowKit Go.Deep Go.Maps Go.ChangeMaps Go.MapKept Go.Extern.Stop Go.Stop Go.Extern Go.Proofs.YtfjiejndnbnkfaaFmt.Base Go.Proofs.YtfjiejndnbnkfaaFmt.Sls Go.Proofs.YtfjiejndnbnkfaaFmt.Mps Go.Proofs.YtfjiejndnbnkfaaFmt.Wsum Go.Proofs.YtfjiejndnbnkfaaFmt.Lk Go.Proofs.YtfjiejndnbnkfaaFmt.Lm Go.Proofs.YtfjiejndnbnkfaaFmt.Ln Go.Proofs.YtfjiejndnbnkfaaFmt.OeA Go.Proofs.YtfjiejndnbnkfaaFmt.OeB
set_option linter.unusedVariables false
def Cl (K M E S : Nat) (lvl : Int) (base b n R : Nat) (D : DataW Value) (w : World) (js css : Value) (wr : World) : Prop :=
  ∃ (left : Lit → Bool) (cnt : Nat) (eb : Bool) (v : Value) (ms : List Ms), Sx K M E S lvl base b n R D left cnt eb v ms w wr ∧ (∀ l, left l = true → Maps.has D l = true) ∧ ms.length + ws er left D = wt er D ∧ js = .string (sel D left JS) ∧ css = .string (sel D left CSS)
/-- In the midst of a round: the value has been looked at. -/
def Md (K M E S : Nat) (lvl : Int) (base b n R : Nat) (D : DataW Value) (left : Lit → Bool) (cnt m : Nat) (w wx : World) : Prop :=
  ∃ (eb : Bool) (v : Value) (ms : List Ms), Sx K M E S lvl base b n R D left cnt eb v ms w wx ∧ ms.length = m
def Post10 (D : DataW Value) (K M E S base : Nat) (w : World) (e : Ending) (w' : World) : Prop :=
  e = .returned (.tuple #[.string (gt D JS), .string (gt D CSS)]) ∧ (∃ (eb : Bool) (v : Value) (ms : List Ms), Lg w' K M E S 1 eb base v ms ∧ ms.length = wt er D) ∧ (∀ B, B ≤ M → B ≤ S → B ≤ E → B ≤ base → Below B w w') ∧ (∀ q, q ≠ M → q ≠ S → q ≠ E → q < w.heap.size → w'.heap[q]? = w.heap[q]?)
set_option maxRecDepth 20000 in
set_option maxHeartbeats 4000000 in
theorem val10 (K M E S : Nat) (lvl : Int) (base b n : Nat) (D : DataW Value) (w : World) (hG : OeA.Good D) (hmax : Maps.size D ≤ 4097) (hown : MD w b n D) (hb : b < base) (hne : b ≠ K ∧ b ≠ M ∧ b ≠ E ∧ b ≠ S) (h : Lg w K M E S 1 false base (.slice none 0 0) []) :
    Calls Tryf.prog 10 #[logv K M E S lvl, .map (some b)] w (Post10 D K M E S base w) := by
  have HO := Lib.hid hown; have HL := Lib.hid h; have HG := Lib.hid hG; have HC := Lib.hid (hown.canon law9)
  have hTT : wt er D ≤ 8194 := by
    have := ws_le (f := er) (left := fun _ => true) (D := D) 2 er_le
    unfold wt; omega
  have hbs := h.bs
  have hbw : b < w.heap.size := by omega
  have hGeo : ∀ R, w.heap.size < R → Geo K M E S base b R w := fun R hR => ⟨hb, hne.1, hne.2.1, hne.2.2.1, hne.2.2.2, h.kb, h.mb, h.eb', h.sb, h.bs, hR⟩
  have GEO := Lib.hid hGeo
  have O1 := Lib.hid (md_to (w' := w.alloc (.cells #[.func (Fn.func 15) #[] #[.pointer (some ⟨K, 0, none⟩), .pointer (some ⟨M, 0, none⟩), .pointer (some ⟨E, 0, none⟩), .pointer (some ⟨S, 0, none⟩)], .func (Fn.func 18) #[] #[.pointer (some ⟨M, 0, none⟩), .pointer (some ⟨E, 0, none⟩)], .func (Fn.func 19) #[] #[.pointer (some ⟨M, 0, none⟩), .pointer (some ⟨S, 0, none⟩)], .func (Fn.func 20) #[] #[.pointer (some ⟨M, 0, none⟩), .pointer (some ⟨S, 0, none⟩)], .int .i8 lvl, .map none] 37)) hown (blk_alloc_lt _ _ _ hbw))
  have L1 := Lib.hid (h.alloc (.cells #[.func (Fn.func 15) #[] #[.pointer (some ⟨K, 0, none⟩), .pointer (some ⟨M, 0, none⟩), .pointer (some ⟨E, 0, none⟩), .pointer (some ⟨S, 0, none⟩)], .func (Fn.func 18) #[] #[.pointer (some ⟨M, 0, none⟩), .pointer (some ⟨E, 0, none⟩)], .func (Fn.func 19) #[] #[.pointer (some ⟨M, 0, none⟩), .pointer (some ⟨S, 0, none⟩)], .func (Fn.func 20) #[] #[.pointer (some ⟨M, 0, none⟩), .pointer (some ⟨S, 0, none⟩)], .int .i8 lvl, .map none] 37))
  clear hown h hG hne hGeo
  unfold logv ptr
  go_enter Tryf.func10, Tryf.ntmps10
  go_wp2_with (first | (at_range; refine wpList_range_own _ rfl _ 26 rfl 9 9 law9 Tryf.underlying26 self b n D rfl O1.out ?_; intro w3 hrg3 hg3 hs3) | fail)
  try go_frame
  have C3 : Cl K M E S lvl base b n (w.alloc (.cells #[.func (Fn.func 15) #[] #[.pointer (some ⟨K, 0, none⟩), .pointer (some ⟨M, 0, none⟩), .pointer (some ⟨E, 0, none⟩), .pointer (some ⟨S, 0, none⟩)], .func (Fn.func 18) #[] #[.pointer (some ⟨M, 0, none⟩), .pointer (some ⟨E, 0, none⟩)], .func (Fn.func 19) #[] #[.pointer (some ⟨M, 0, none⟩), .pointer (some ⟨S, 0, none⟩)], .func (Fn.func 20) #[] #[.pointer (some ⟨M, 0, none⟩), .pointer (some ⟨S, 0, none⟩)], .int .i8 lvl, .map none] 37)).heap.size D w (.string { data := #[] }) (.string { data := #[] }) w3 := by
    refine ⟨_, _, false, .slice none 0 0, [], ⟨hrg3, L1.out.kept hg3.size (fun q hq => hg3.block q (by have := L1.out.bs; rcases hq with rfl | rfl | rfl | rfl | hq; (have := L1.out.kb; omega); (have := L1.out.mb; omega); (have := L1.out.eb'; omega); (have := L1.out.sb; omega); cases hq) (by intro e; cases e)), fun q _ e => (by cases e), (hg3.block _ (by simp) (by intro e; cases e)).trans (heap_alloc_new w _), fun B _ _ _ h4 => ((Below.refl B w).alloc (by omega) _).grown hg3 (by simp; omega) (fun j hj => by cases hj), fun q _ _ _ hq => (hg3.block q (by simp; omega) (by intro e; cases e)).trans (blk_alloc_lt w _ q hq)⟩, fun l h => h, ?_, by rw [sel_start], by rw [sel_start]⟩
    rw [ws_start HC.out]; simp
  have HC3 := Lib.hid C3
  clear C3 hrg3 hg3 hs3 O1 L1
  have zR0 : w.heap.size < (w.alloc (.cells #[.func (Fn.func 15) #[] #[.pointer (some ⟨K, 0, none⟩), .pointer (some ⟨M, 0, none⟩), .pointer (some ⟨E, 0, none⟩), .pointer (some ⟨S, 0, none⟩)], .func (Fn.func 18) #[] #[.pointer (some ⟨M, 0, none⟩), .pointer (some ⟨E, 0, none⟩)], .func (Fn.func 19) #[] #[.pointer (some ⟨M, 0, none⟩), .pointer (some ⟨S, 0, none⟩)], .func (Fn.func 20) #[] #[.pointer (some ⟨M, 0, none⟩), .pointer (some ⟨S, 0, none⟩)], .int .i8 lvl, .map none] 37)).heap.size := by simp
  generalize hR : (w.alloc (.cells #[.func (Fn.func 15) #[] #[.pointer (some ⟨K, 0, none⟩), .pointer (some ⟨M, 0, none⟩), .pointer (some ⟨E, 0, none⟩), .pointer (some ⟨S, 0, none⟩)], .func (Fn.func 18) #[] #[.pointer (some ⟨M, 0, none⟩), .pointer (some ⟨E, 0, none⟩)], .func (Fn.func 19) #[] #[.pointer (some ⟨M, 0, none⟩), .pointer (some ⟨S, 0, none⟩)], .func (Fn.func 20) #[] #[.pointer (some ⟨M, 0, none⟩), .pointer (some ⟨S, 0, none⟩)], .int .i8 lvl, .map none] 37)).heap.size = R at HC3 zR0 ⊢
  have HGEO := Lib.hid (GEO.out R zR0)
  clear hR GEO
  go_loopw [4, 5, 6, 7] (fun js css _ _ wr => Cl K M E S lvl base b n R D w js css wr) (fun _ _ _ _ wr => wr.rangeLeft b R)
  case atStart => exact HC3.out
  case round =>
    obtain ⟨left, cnt, eb, v, ms, hS, hleft, hsum, rfl, rfl⟩ := hrel
    have HS := Lib.hid hS; have HSUM := Lib.hid hsum
    clear hS hsum HC3
    go_wp2_with (at_next; refine wpList_next_ranges (α := ByteArray) (β := Value) _ rfl _ rfl 9 law9 self Value.string id (fun key kl' h => by obtain ⟨x, e, _⟩ := key_inv h; exact ⟨x, e⟩) (fun v y h => ⟨v, rfl⟩) b R n D left cnt rfl HS.out.rg ?_ ?_)
    · intro hc0 hl0
      have hlen : ms.length = wt er D := by have := HSUM.out; rw [ws_end hl0] at this; omega
      rw [sel_end D left hl0, sel_end D left hl0]
      have HLEN := Lib.hid hlen
      clear hc0 hl0 hlen
      go_wp2
      refine bodyPost_ret (v := .tuple #[.string (gt D JS), .string (gt D CSS)]) (by simp [results, Tryf.results10, go_sem]) rfl ⟨rfl, ⟨eb, v, ms, HS.out.lg, HLEN.out⟩, HS.out.bel, HS.out.far⟩
    · intro x c kl' y1 y2 w1 cnt1 hkx hlk hR hat hrg1 hlt hg1 hs1 hen
      obtain ⟨x', ex, ekl, hxs⟩ := key_inv hkx
      injection ex with ex
      subst ex
      subst ekl
      obtain ⟨y, hys, hyat⟩ := HG.out _ (hleft _ hlk)
      have hy : y1 = .held (.string y) := ((hat .nil).symm.trans (hyat .nil))
      obtain rfl : c = .string y := by
        unfold self at hR
        injection hR with hR
        injection hR with hR1 hR2
        rw [hy] at hR1
        injection hR1
      have S1 := Lib.hid (HS.out.step HGEO.out hrg1 hg1)
      have hstep := ws_step (f := er) HC.out hlk (hleft _ hlk)
      rw [hyat] at hstep
      have HSTEP : Hid (ws er left D = e1 y + e2 (kl x) + ws er (fun z => left z && !z.sameKey (kl x)) D) := Lib.hid hstep
      have HYAT := Lib.hid hyat
      have HLF : Hid (∀ l, (left l && !l.sameKey (kl x)) = true → Maps.has D l = true) := Lib.hid fun l hl => hleft l (by revert hl; cases left l <;> simp)
      have HLT := Lib.hid (show cnt1 < wr.rangeLeft b R by rw [HS.out.rg.left_eq]; exact hlt)
      have hms : ms.length ≤ 8194 := by have := HSUM.out; omega
      obtain ⟨vb, hvb⟩ : ∃ vb, vx y = vb := ⟨_, rfl⟩
      have V12 := Lib.hid (vx12 y hys w1)
      rw [hvb] at V12
      have he1 : e1 y = if vb = true then 0 else 1 := by unfold e1; rw [hvb]
      have HE1 := Lib.hid he1
      clear hstep hkx hlk hR hat hrg1 hlt hg1 hs1 hy hyat hvb he1
      go_upto_if 17 with (first | (go_at_call 12; refine V12.out.mono ?_; rintro e w4 ⟨rfl, rfl⟩) | fail)
      go_cut [] (fun wx => Md K M E S lvl base b n R D (fun z => left z && !z.sameKey (kl x)) cnt1 (ms.length + e1 y) w wx)
      case first =>
        cases vb
        · go_upto_region 5 with (fail)
          refine wp_region_held_drew (S := fun w' => w'.heap[w.heap.size]? = some (.cells #[.func (Fn.func 15) #[] #[.pointer (some ⟨K, 0, none⟩), .pointer (some ⟨M, 0, none⟩), .pointer (some ⟨E, 0, none⟩), .pointer (some ⟨S, 0, none⟩)], .func (Fn.func 18) #[] #[.pointer (some ⟨M, 0, none⟩), .pointer (some ⟨E, 0, none⟩)], .func (Fn.func 19) #[] #[.pointer (some ⟨M, 0, none⟩), .pointer (some ⟨S, 0, none⟩)], .func (Fn.func 20) #[] #[.pointer (some ⟨M, 0, none⟩), .pointer (some ⟨S, 0, none⟩)], .int .i8 lvl, .map none] 37 (0, 0))) (by kernel_rfl) S1.out.bx (fun hHeld => ?_)
          refine wpAnyH_take (i := 0) (oi := { dst := some 18, op := Op.load 37 (Operand.tmp 2), type := 37, pos := "api_impl.go:743", after := #[], guard := none }) (v := ?_) rfl (by kernel_rfl) (by kernel_rfl) (by kernel_rfl) (fun _ _ _ h => h) (Or.inl ⟨by rfl, ?_⟩) (by assumption) ?_
          rotate_left
          · intro wq hSw
            have a0 : wq.cell? ⟨w.heap.size, 0, none⟩ = some (.func (Fn.func 15) #[] #[.pointer (some ⟨K, 0, none⟩), .pointer (some ⟨M, 0, none⟩), .pointer (some ⟨E, 0, none⟩), .pointer (some ⟨S, 0, none⟩)]) := by simp [World.cell?, hSw]
            have a1 : wq.cell? ⟨w.heap.size, 1, none⟩ = some (.func (Fn.func 18) #[] #[.pointer (some ⟨M, 0, none⟩), .pointer (some ⟨E, 0, none⟩)]) := by simp [World.cell?, hSw]
            have a2 : wq.cell? ⟨w.heap.size, 2, none⟩ = some (.func (Fn.func 19) #[] #[.pointer (some ⟨M, 0, none⟩), .pointer (some ⟨S, 0, none⟩)]) := by simp [World.cell?, hSw]
            have a3 : wq.cell? ⟨w.heap.size, 3, none⟩ = some (.func (Fn.func 20) #[] #[.pointer (some ⟨M, 0, none⟩), .pointer (some ⟨S, 0, none⟩)]) := by simp [World.cell?, hSw]
            have a4 : wq.cell? ⟨w.heap.size, 4, none⟩ = some (.int .i8 lvl) := by simp [World.cell?, hSw]
            have a5 : wq.cell? ⟨w.heap.size, 5, none⟩ = some (.map none) := by simp [World.cell?, hSw]
            go_simp
            try (with_reducible rfl)
          try go_frame
          refine wpAnyH_take (i := 1) (oi := { dst := some 19, op := Op.build 48 #[], type := 48, pos := "api_impl.go:743", after := #[], guard := none }) (v := ?_) rfl (by kernel_rfl) (by kernel_rfl) (by kernel_rfl) (fun _ _ _ h => h) (Or.inl ⟨by rfl, ?_⟩) (by assumption) ?_
          rotate_left
          · intro wq hSw
            have a0 : wq.cell? ⟨w.heap.size, 0, none⟩ = some (.func (Fn.func 15) #[] #[.pointer (some ⟨K, 0, none⟩), .pointer (some ⟨M, 0, none⟩), .pointer (some ⟨E, 0, none⟩), .pointer (some ⟨S, 0, none⟩)]) := by simp [World.cell?, hSw]
            have a1 : wq.cell? ⟨w.heap.size, 1, none⟩ = some (.func (Fn.func 18) #[] #[.pointer (some ⟨M, 0, none⟩), .pointer (some ⟨E, 0, none⟩)]) := by simp [World.cell?, hSw]
            have a2 : wq.cell? ⟨w.heap.size, 2, none⟩ = some (.func (Fn.func 19) #[] #[.pointer (some ⟨M, 0, none⟩), .pointer (some ⟨S, 0, none⟩)]) := by simp [World.cell?, hSw]
            have a3 : wq.cell? ⟨w.heap.size, 3, none⟩ = some (.func (Fn.func 20) #[] #[.pointer (some ⟨M, 0, none⟩), .pointer (some ⟨S, 0, none⟩)]) := by simp [World.cell?, hSw]
            have a4 : wq.cell? ⟨w.heap.size, 4, none⟩ = some (.int .i8 lvl) := by simp [World.cell?, hSw]
            have a5 : wq.cell? ⟨w.heap.size, 5, none⟩ = some (.map none) := by simp [World.cell?, hSw]
            go_simp
            try (with_reducible rfl)
          try go_frame
          refine wpAnyH_take (i := 2) (oi := { dst := some 20, op := Op.move (Operand.tmp 7), type := 9, pos := "api_impl.go:743", after := #[], guard := none }) (v := ?_) rfl (by kernel_rfl) (by kernel_rfl) (by kernel_rfl) (fun _ _ _ h => h) (Or.inl ⟨by rfl, ?_⟩) (by assumption) ?_
          rotate_left
          · intro wq hSw
            have a0 : wq.cell? ⟨w.heap.size, 0, none⟩ = some (.func (Fn.func 15) #[] #[.pointer (some ⟨K, 0, none⟩), .pointer (some ⟨M, 0, none⟩), .pointer (some ⟨E, 0, none⟩), .pointer (some ⟨S, 0, none⟩)]) := by simp [World.cell?, hSw]
            have a1 : wq.cell? ⟨w.heap.size, 1, none⟩ = some (.func (Fn.func 18) #[] #[.pointer (some ⟨M, 0, none⟩), .pointer (some ⟨E, 0, none⟩)]) := by simp [World.cell?, hSw]
            have a2 : wq.cell? ⟨w.heap.size, 2, none⟩ = some (.func (Fn.func 19) #[] #[.pointer (some ⟨M, 0, none⟩), .pointer (some ⟨S, 0, none⟩)]) := by simp [World.cell?, hSw]
            have a3 : wq.cell? ⟨w.heap.size, 3, none⟩ = some (.func (Fn.func 20) #[] #[.pointer (some ⟨M, 0, none⟩), .pointer (some ⟨S, 0, none⟩)]) := by simp [World.cell?, hSw]
            have a4 : wq.cell? ⟨w.heap.size, 4, none⟩ = some (.int .i8 lvl) := by simp [World.cell?, hSw]
            have a5 : wq.cell? ⟨w.heap.size, 5, none⟩ = some (.map none) := by simp [World.cell?, hSw]
            go_simp
            try (with_reducible rfl)
          try go_frame
          refine wpAnyH_take (i := 3) (oi := { dst := some 21, op := Op.makeInterface 9 (Operand.tmp 20), type := 20, pos := "api_impl.go:743", after := #[{ on := 2, ground := Ground.data }], guard := none }) (v := ?_) rfl (by kernel_rfl) (by kernel_rfl) (by kernel_rfl) (fun _ _ _ h => h) (Or.inl ⟨by rfl, ?_⟩) (by assumption) ?_
          rotate_left
          · intro wq hSw
            have a0 : wq.cell? ⟨w.heap.size, 0, none⟩ = some (.func (Fn.func 15) #[] #[.pointer (some ⟨K, 0, none⟩), .pointer (some ⟨M, 0, none⟩), .pointer (some ⟨E, 0, none⟩), .pointer (some ⟨S, 0, none⟩)]) := by simp [World.cell?, hSw]
            have a1 : wq.cell? ⟨w.heap.size, 1, none⟩ = some (.func (Fn.func 18) #[] #[.pointer (some ⟨M, 0, none⟩), .pointer (some ⟨E, 0, none⟩)]) := by simp [World.cell?, hSw]
            have a2 : wq.cell? ⟨w.heap.size, 2, none⟩ = some (.func (Fn.func 19) #[] #[.pointer (some ⟨M, 0, none⟩), .pointer (some ⟨S, 0, none⟩)]) := by simp [World.cell?, hSw]
            have a3 : wq.cell? ⟨w.heap.size, 3, none⟩ = some (.func (Fn.func 20) #[] #[.pointer (some ⟨M, 0, none⟩), .pointer (some ⟨S, 0, none⟩)]) := by simp [World.cell?, hSw]
            have a4 : wq.cell? ⟨w.heap.size, 4, none⟩ = some (.int .i8 lvl) := by simp [World.cell?, hSw]
            have a5 : wq.cell? ⟨w.heap.size, 5, none⟩ = some (.map none) := by simp [World.cell?, hSw]
            go_simp
            try (with_reducible rfl)
          try go_frame
          refine wpAnyH_ready (rs := [4]) (by kernel_rfl) (by simp) ?_
          refine AllReadyH.cons rfl (fun K' hK => ?_) AllReadyH.nil
          have zx := (Array.getElem?_eq_some_iff.1 S1.out.bx).1
          have y2 : ∀ o, ((w1.alloc o).drew).heap[w.heap.size]? = some (.cells #[.func (Fn.func 15) #[] #[.pointer (some ⟨K, 0, none⟩), .pointer (some ⟨M, 0, none⟩), .pointer (some ⟨E, 0, none⟩), .pointer (some ⟨S, 0, none⟩)], .func (Fn.func 18) #[] #[.pointer (some ⟨M, 0, none⟩), .pointer (some ⟨E, 0, none⟩)], .func (Fn.func 19) #[] #[.pointer (some ⟨M, 0, none⟩), .pointer (some ⟨S, 0, none⟩)], .func (Fn.func 20) #[] #[.pointer (some ⟨M, 0, none⟩), .pointer (some ⟨S, 0, none⟩)], .int .i8 lvl, .map none] 37 (0, 0)) := fun o => (blk_alloc_lt w1 o _ zx).trans S1.out.bx
          go_simp
          refine hK.out _ _ (y2 _) (fun hHeld => ?_)
          clear hK K'
          try go_frame
          refine wpAnyH_ready (rs := [5]) (by kernel_rfl) (by simp) ?_
          refine AllReadyH.cons rfl (fun K' hK => ?_) AllReadyH.nil
          go_simp
          refine hK.out _ _ (y2 _) (fun hHeld => ?_)
          clear hK K'
          try go_frame
          refine wpAnyH_ready (rs := [6]) (by kernel_rfl) (by simp) ?_
          refine AllReadyH.cons rfl (fun K' hK => ?_) AllReadyH.nil
          go_simp
          have L8 := ((S1.out.lg.alloc (.cells #[.iface 9 (.string y)] 20)).drew).drew
          refine (errF K M E S lvl _ base _ _ _ _ L8 (by omega)).mono ?_
          rintro e w8 ⟨rfl, hg, far, bel⟩
          obtain ⟨v8, hg8, hn8⟩ := hg
          have S8 := Lib.hid (S1.out.add HGEO.out (wa := ((w1.alloc (.cells #[.iface 9 (.string y)] 20)).drew).drew) (by simp) (fun q hq => blk_alloc_lt w1 _ q hq) (fun B hB => ((Below.refl B w1).alloc (by have := S1.out.lg.bs; omega) _).drew.drew) hg8 hn8 far bel)
          clear hg8 hn8 far bel L8 y2
          go_simp
          refine hK.out _ _ S8.out.bx (fun hHeld => ?_)
          clear hK K'
          try go_frame
          refine wpAnyH_done (by kernel_rfl) ?_ _
          go_wp2
          go_meet
          exact ⟨_, _, _, S8.out, by rw [HE1.out]; simp⟩
        · go_wp2
          go_meet
          exact ⟨eb, v, ms, S1.out, by rw [HE1.out]; rfl⟩
      obtain ⟨eb2, v2, ms2, hS2, hm2⟩ := hcut
      have S2 := Lib.hid hS2; have HM2 := Lib.hid hm2
      clear hS2 hm2 HS S1 V12
      -- what the round leaves
      have FIN : Hid (∀ (eb' : Bool) (v' : Value) (ms' : List Ms) (js css : ByteArray) (w9 : World), Sx K M E S lvl base b n R D (fun z => left z && !z.sameKey (kl x)) cnt1 eb' v' ms' w w9 → ms'.length = ms.length + e1 y + e2 (kl x) → js = sel D (fun z => left z && !z.sameKey (kl x)) JS → css = sel D (fun z => left z && !z.sameKey (kl x)) CSS → Cl K M E S lvl base b n R D w (.string js) (.string css) w9 ∧ w9.rangeLeft b R < wr.rangeLeft b R) := Lib.hid fun eb' v' ms' js css w9 f1 f2 f3 f4 => by
        refine ⟨⟨_, _, eb', v', ms', f1, HLF.out, ?_, by rw [f3], by rw [f4]⟩, ?_⟩
        · have := HSUM.out; have := HSTEP.out; omega
        · rw [f1.rg.left_eq]; exact HLT.out
      by_cases hj : x = JS
      · subst hj
        have h2 : e2 (kl JS) = 0 := by unfold e2; rw [if_pos (.inl rfl)]
        have F := Lib.hid (FIN.out eb2 v2 ms2 y (sel D left CSS) wc S2.out (by rw [HM2.out, h2]; rfl) (by rw [sel_hit HYAT.out]) (by rw [sel_other js_ne.symm]))
        clear h2
        unfold JS
        go_wp2
        exact F.out
      · by_cases hc : x = CSS
        · subst hc
          have h2 : e2 (kl CSS) = 0 := by unfold e2; rw [if_pos (.inr rfl)]
          have F := Lib.hid (FIN.out eb2 v2 ms2 (sel D left JS) y wc S2.out (by rw [HM2.out, h2]; rfl) (by rw [sel_other js_ne]) (by rw [sel_hit HYAT.out]))
          clear h2
          unfold CSS
          go_wp2
          exact F.out
        · have q1 : (x.toList == [46, 106, 115]) = false := by
            rw [Lib.toList_data, beq_eq_false_iff_ne]
            intro e
            exact hj (ext_list e)
          have q2 : (x.toList == [46, 99, 115, 115]) = false := by
            rw [Lib.toList_data, beq_eq_false_iff_ne]
            intro e
            exact hc (ext_list e)
          have h2 : e2 (kl x) = 1 := by unfold e2; rw [if_neg (by rintro (h | h); exact hj (kl_inj h); exact hc (kl_inj h))]
          have F := Lib.hid (fun eb' v' ms' w9 (f1 : Sx K M E S lvl base b n R D (fun z => left z && !z.sameKey (kl x)) cnt1 eb' v' ms' w w9) (f2 : ms'.length = ms2.length + 1) => FIN.out eb' v' ms' (sel D left JS) (sel D left CSS) w9 f1 (by rw [f2, HM2.out, h2]) (by rw [sel_other (fun e => hj e.symm)]) (by rw [sel_other (fun e => hc e.symm)]))
          have hm2 : ms2.length < 4194304 := by
            have := HM2.out
            have e : e1 y ≤ 1 := by unfold e1; split <;> omega
            omega
          clear h2 hj hc
          go_upto_region 7 with (fail)
          refine wp_region_held_drew (S := fun w' => w'.heap[w.heap.size]? = some (.cells #[.func (Fn.func 15) #[] #[.pointer (some ⟨K, 0, none⟩), .pointer (some ⟨M, 0, none⟩), .pointer (some ⟨E, 0, none⟩), .pointer (some ⟨S, 0, none⟩)], .func (Fn.func 18) #[] #[.pointer (some ⟨M, 0, none⟩), .pointer (some ⟨E, 0, none⟩)], .func (Fn.func 19) #[] #[.pointer (some ⟨M, 0, none⟩), .pointer (some ⟨S, 0, none⟩)], .func (Fn.func 20) #[] #[.pointer (some ⟨M, 0, none⟩), .pointer (some ⟨S, 0, none⟩)], .int .i8 lvl, .map none] 37 (0, 0))) (by kernel_rfl) S2.out.bx (fun hHeld => ?_)
          refine wpAnyH_take (i := 0) (oi := { dst := some 26, op := Op.load 37 (Operand.tmp 2), type := 37, pos := "api_impl.go:751", after := #[], guard := none }) (v := ?_) rfl (by kernel_rfl) (by kernel_rfl) (by kernel_rfl) (fun _ _ _ h => h) (Or.inl ⟨by rfl, ?_⟩) (by assumption) ?_
          rotate_left
          · intro wq hSw
            have a0 : wq.cell? ⟨w.heap.size, 0, none⟩ = some (.func (Fn.func 15) #[] #[.pointer (some ⟨K, 0, none⟩), .pointer (some ⟨M, 0, none⟩), .pointer (some ⟨E, 0, none⟩), .pointer (some ⟨S, 0, none⟩)]) := by simp [World.cell?, hSw]
            have a1 : wq.cell? ⟨w.heap.size, 1, none⟩ = some (.func (Fn.func 18) #[] #[.pointer (some ⟨M, 0, none⟩), .pointer (some ⟨E, 0, none⟩)]) := by simp [World.cell?, hSw]
            have a2 : wq.cell? ⟨w.heap.size, 2, none⟩ = some (.func (Fn.func 19) #[] #[.pointer (some ⟨M, 0, none⟩), .pointer (some ⟨S, 0, none⟩)]) := by simp [World.cell?, hSw]
            have a3 : wq.cell? ⟨w.heap.size, 3, none⟩ = some (.func (Fn.func 20) #[] #[.pointer (some ⟨M, 0, none⟩), .pointer (some ⟨S, 0, none⟩)]) := by simp [World.cell?, hSw]
            have a4 : wq.cell? ⟨w.heap.size, 4, none⟩ = some (.int .i8 lvl) := by simp [World.cell?, hSw]
            have a5 : wq.cell? ⟨w.heap.size, 5, none⟩ = some (.map none) := by simp [World.cell?, hSw]
            go_simp
            try (with_reducible rfl)
          try go_frame
          refine wpAnyH_take (i := 1) (oi := { dst := some 27, op := Op.build 48 #[], type := 48, pos := "api_impl.go:751", after := #[], guard := none }) (v := ?_) rfl (by kernel_rfl) (by kernel_rfl) (by kernel_rfl) (fun _ _ _ h => h) (Or.inl ⟨by rfl, ?_⟩) (by assumption) ?_
          rotate_left
          · intro wq hSw
            have a0 : wq.cell? ⟨w.heap.size, 0, none⟩ = some (.func (Fn.func 15) #[] #[.pointer (some ⟨K, 0, none⟩), .pointer (some ⟨M, 0, none⟩), .pointer (some ⟨E, 0, none⟩), .pointer (some ⟨S, 0, none⟩)]) := by simp [World.cell?, hSw]
            have a1 : wq.cell? ⟨w.heap.size, 1, none⟩ = some (.func (Fn.func 18) #[] #[.pointer (some ⟨M, 0, none⟩), .pointer (some ⟨E, 0, none⟩)]) := by simp [World.cell?, hSw]
            have a2 : wq.cell? ⟨w.heap.size, 2, none⟩ = some (.func (Fn.func 19) #[] #[.pointer (some ⟨M, 0, none⟩), .pointer (some ⟨S, 0, none⟩)]) := by simp [World.cell?, hSw]
            have a3 : wq.cell? ⟨w.heap.size, 3, none⟩ = some (.func (Fn.func 20) #[] #[.pointer (some ⟨M, 0, none⟩), .pointer (some ⟨S, 0, none⟩)]) := by simp [World.cell?, hSw]
            have a4 : wq.cell? ⟨w.heap.size, 4, none⟩ = some (.int .i8 lvl) := by simp [World.cell?, hSw]
            have a5 : wq.cell? ⟨w.heap.size, 5, none⟩ = some (.map none) := by simp [World.cell?, hSw]
            go_simp
            try (with_reducible rfl)
          try go_frame
          refine wpAnyH_take (i := 2) (oi := { dst := some 28, op := Op.move (Operand.tmp 6), type := 9, pos := "api_impl.go:751", after := #[], guard := none }) (v := ?_) rfl (by kernel_rfl) (by kernel_rfl) (by kernel_rfl) (fun _ _ _ h => h) (Or.inl ⟨by rfl, ?_⟩) (by assumption) ?_
          rotate_left
          · intro wq hSw
            have a0 : wq.cell? ⟨w.heap.size, 0, none⟩ = some (.func (Fn.func 15) #[] #[.pointer (some ⟨K, 0, none⟩), .pointer (some ⟨M, 0, none⟩), .pointer (some ⟨E, 0, none⟩), .pointer (some ⟨S, 0, none⟩)]) := by simp [World.cell?, hSw]
            have a1 : wq.cell? ⟨w.heap.size, 1, none⟩ = some (.func (Fn.func 18) #[] #[.pointer (some ⟨M, 0, none⟩), .pointer (some ⟨E, 0, none⟩)]) := by simp [World.cell?, hSw]
            have a2 : wq.cell? ⟨w.heap.size, 2, none⟩ = some (.func (Fn.func 19) #[] #[.pointer (some ⟨M, 0, none⟩), .pointer (some ⟨S, 0, none⟩)]) := by simp [World.cell?, hSw]
            have a3 : wq.cell? ⟨w.heap.size, 3, none⟩ = some (.func (Fn.func 20) #[] #[.pointer (some ⟨M, 0, none⟩), .pointer (some ⟨S, 0, none⟩)]) := by simp [World.cell?, hSw]
            have a4 : wq.cell? ⟨w.heap.size, 4, none⟩ = some (.int .i8 lvl) := by simp [World.cell?, hSw]
            have a5 : wq.cell? ⟨w.heap.size, 5, none⟩ = some (.map none) := by simp [World.cell?, hSw]
            go_simp
            try (with_reducible rfl)
          try go_frame
          refine wpAnyH_take (i := 3) (oi := { dst := some 29, op := Op.makeInterface 9 (Operand.tmp 28), type := 20, pos := "api_impl.go:751", after := #[{ on := 2, ground := Ground.data }], guard := none }) (v := ?_) rfl (by kernel_rfl) (by kernel_rfl) (by kernel_rfl) (fun _ _ _ h => h) (Or.inl ⟨by rfl, ?_⟩) (by assumption) ?_
          rotate_left
          · intro wq hSw
            have a0 : wq.cell? ⟨w.heap.size, 0, none⟩ = some (.func (Fn.func 15) #[] #[.pointer (some ⟨K, 0, none⟩), .pointer (some ⟨M, 0, none⟩), .pointer (some ⟨E, 0, none⟩), .pointer (some ⟨S, 0, none⟩)]) := by simp [World.cell?, hSw]
            have a1 : wq.cell? ⟨w.heap.size, 1, none⟩ = some (.func (Fn.func 18) #[] #[.pointer (some ⟨M, 0, none⟩), .pointer (some ⟨E, 0, none⟩)]) := by simp [World.cell?, hSw]
            have a2 : wq.cell? ⟨w.heap.size, 2, none⟩ = some (.func (Fn.func 19) #[] #[.pointer (some ⟨M, 0, none⟩), .pointer (some ⟨S, 0, none⟩)]) := by simp [World.cell?, hSw]
            have a3 : wq.cell? ⟨w.heap.size, 3, none⟩ = some (.func (Fn.func 20) #[] #[.pointer (some ⟨M, 0, none⟩), .pointer (some ⟨S, 0, none⟩)]) := by simp [World.cell?, hSw]
            have a4 : wq.cell? ⟨w.heap.size, 4, none⟩ = some (.int .i8 lvl) := by simp [World.cell?, hSw]
            have a5 : wq.cell? ⟨w.heap.size, 5, none⟩ = some (.map none) := by simp [World.cell?, hSw]
            go_simp
            try (with_reducible rfl)
          try go_frame
          refine wpAnyH_ready (rs := [4]) (by kernel_rfl) (by simp) ?_
          refine AllReadyH.cons rfl (fun K' hK => ?_) AllReadyH.nil
          have zx := (Array.getElem?_eq_some_iff.1 S2.out.bx).1
          have y2 : ∀ o, ((wc.alloc o).drew).heap[w.heap.size]? = some (.cells #[.func (Fn.func 15) #[] #[.pointer (some ⟨K, 0, none⟩), .pointer (some ⟨M, 0, none⟩), .pointer (some ⟨E, 0, none⟩), .pointer (some ⟨S, 0, none⟩)], .func (Fn.func 18) #[] #[.pointer (some ⟨M, 0, none⟩), .pointer (some ⟨E, 0, none⟩)], .func (Fn.func 19) #[] #[.pointer (some ⟨M, 0, none⟩), .pointer (some ⟨S, 0, none⟩)], .func (Fn.func 20) #[] #[.pointer (some ⟨M, 0, none⟩), .pointer (some ⟨S, 0, none⟩)], .int .i8 lvl, .map none] 37 (0, 0)) := fun o => (blk_alloc_lt wc o _ zx).trans S2.out.bx
          go_simp
          refine hK.out _ _ (y2 _) (fun hHeld => ?_)
          clear hK K'
          try go_frame
          refine wpAnyH_ready (rs := [5]) (by kernel_rfl) (by simp) ?_
          refine AllReadyH.cons rfl (fun K' hK => ?_) AllReadyH.nil
          go_simp
          refine hK.out _ _ (y2 _) (fun hHeld => ?_)
          clear hK K'
          try go_frame
          refine wpAnyH_ready (rs := [6]) (by kernel_rfl) (by simp) ?_
          refine AllReadyH.cons rfl (fun K' hK => ?_) AllReadyH.nil
          go_simp
          have L8 := ((S2.out.lg.alloc (.cells #[.iface 9 (.string x)] 20)).drew).drew
          refine (errF K M E S lvl _ base _ _ _ _ L8 (by omega)).mono ?_
          rintro e w8 ⟨rfl, hg, far, bel⟩
          obtain ⟨v8, hg8, hn8⟩ := hg
          have S8 := Lib.hid (S2.out.add HGEO.out (wa := ((wc.alloc (.cells #[.iface 9 (.string x)] 20)).drew).drew) (by simp) (fun q hq => blk_alloc_lt wc _ q hq) (fun B hB => ((Below.refl B wc).alloc (by have := S2.out.lg.bs; omega) _).drew.drew) hg8 hn8 far bel)
          clear hg8 hn8 far bel L8 y2
          go_simp
          refine hK.out _ _ S8.out.bx (fun hHeld => ?_)
          clear hK K'
          try go_frame
          refine wpAnyH_done (by kernel_rfl) ?_ _
          go_wp2
          exact F.out _ _ _ _ S8.out (by simp)
end Go.Proofs.YtfjiejndnbnkfaaFmt.OeC
