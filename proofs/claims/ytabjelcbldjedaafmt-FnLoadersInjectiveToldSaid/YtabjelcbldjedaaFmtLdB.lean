/- validateLoaders over a map of one key by its contract: the default map with the key's loader; one message if the key is not a valid extension. Conditions: lengths, a loader of at most 16. -/
import Derived.Test.YtabjelcbldjedaaFmtLdA
import Derived.Deep.RegionHeld
import Derived.Deep.DeepCutAuto
namespace Go.Proofs.YtabjelcbldjedaaFmt.LdB
open Go.RowKit Go.Deep Go.Maps Go.ChangeMaps Go.MapKept Go.Extern.Stop Go.Stop Go.Extern Go.Proofs.YtabjelcbldjedaaFmt.Base Go.Proofs.YtabjelcbldjedaaFmt.Sls Go.Proofs.YtabjelcbldjedaaFmt.Mps Go.Proofs.YtabjelcbldjedaaFmt.Lk Go.Proofs.YtabjelcbldjedaaFmt.Lm Go.Proofs.YtabjelcbldjedaaFmt.Ln Go.Proofs.YtabjelcbldjedaaFmt.LdA
set_option linter.unusedVariables false
theorem md_to {w w' : World} {b n : Nat} {D : DataW Value} (h : MD w b n D) (hb : w'.heap[b]? = w.heap[b]?) : MD w' b n D := by
  obtain ⟨es, clock, h1, h2⟩ := h
  exact ⟨es, clock, hb.trans h1, h2⟩
theorem rg_to {w w' : World} {b r n cnt : Nat} {D : DataW Value} {left : Lit → Bool} (h : w.ranges Tryf.prog 9 self b r n D left cnt) (h1 : w'.heap[b]? = w.heap[b]?) (h2 : w'.heap[r]? = w.heap[r]?) : w'.ranges Tryf.prog 9 self b r n D left cnt := by
  obtain ⟨es, clock, since, seen, c0, hb, F, hs, hD, hr, rest⟩ := h
  exact ⟨es, clock, since, seen, c0, h1.trans hb, F, hs, hD, h2.trans hr, rest⟩
/-- What comes back. -/
def Df (ext : ByteArray) (a : Int) : DataW Value := D0.put (kl ext) (.held (.int .u8 (lc a)))
def Cl (ext : ByteArray) (a : Int) (k : Nat) (K M E S : Nat) (lvl : Int) (base b n R : Nat) (w wr : World) : Prop :=
  ∃ (left : Lit → Bool) (cnt : Nat), wr.ranges Tryf.prog 9 self b R n (D1 ext a) left cnt ∧ (∀ l, left l = true → Maps.has (D1 ext a) l = true) ∧ ∃ (eb : Bool) (v : Value) (ms : List Ms), Lg wr K M E S 1 eb base v ms ∧ (∀ q, q = w.heap.size ∨ q = w.heap.size + 1 ∨ q = R ∨ q = b → v.ownBlock ≠ some q) ∧ wr.heap[w.heap.size]? = some (.cells #[.func (Fn.func 8) #[] #[.pointer (some ⟨K, 0, none⟩), .pointer (some ⟨M, 0, none⟩), .pointer (some ⟨E, 0, none⟩), .pointer (some ⟨S, 0, none⟩)], .func (Fn.func 11) #[] #[.pointer (some ⟨M, 0, none⟩), .pointer (some ⟨E, 0, none⟩)], .func (Fn.func 12) #[] #[.pointer (some ⟨M, 0, none⟩), .pointer (some ⟨S, 0, none⟩)], .func (Fn.func 13) #[] #[.pointer (some ⟨M, 0, none⟩), .pointer (some ⟨S, 0, none⟩)], .int .i8 lvl, .map none] 38 (0, 0)) ∧
    ((left (kl ext) = true ∧ MD wr (w.heap.size + 1) 13 D0 ∧ v = .slice none 0 0 ∧ ms = [] ∧ eb = false) ∨ (left (kl ext) = false ∧ MD wr (w.heap.size + 1) 14 (Df ext a) ∧ ms.length = k)) ∧ (∀ B, B ≤ M → B ≤ S → B ≤ E → B ≤ base → Below B w wr) ∧ (∀ q, q ≠ M → q ≠ S → q ≠ E → q < w.heap.size → wr.heap[q]? = w.heap[q]?)
def Post7 (ext : ByteArray) (a : Int) (k : Nat) (K M E S base : Nat) (w : World) (e : Ending) (w' : World) : Prop :=
  e = .returned (.map (some (w.heap.size + 1))) ∧ MD w' (w.heap.size + 1) 14 (Df ext a) ∧ (∃ (eb : Bool) (v : Value) (ms : List Ms), Lg w' K M E S 1 eb base v ms ∧ ms.length = k ∧ v.ownBlock ≠ some (w.heap.size + 1)) ∧ (∀ B, B ≤ M → B ≤ S → B ≤ E → B ≤ base → Below B w w') ∧ (∀ q, q ≠ M → q ≠ S → q ≠ E → q < w.heap.size → w'.heap[q]? = w.heap[q]?)
set_option maxRecDepth 20000 in
set_option maxHeartbeats 4000000 in
theorem loaders7 (ext : ByteArray) (a : Int) (vb : Bool) (K M E S : Nat) (lvl : Int) (base b n : Nat) (w : World) (hx : ext.size ≤ 1048576) (h0 : 0 ≤ a) (h1 : a ≤ 16) (hv : ∀ w, Calls Tryf.prog 16 #[.string ext] w fun e w' => e = .returned (.bool vb) ∧ w = w')
    (hown : MD w b n (D1 ext a)) (hb : b < base) (hne : b ≠ K ∧ b ≠ M ∧ b ≠ E ∧ b ≠ S) (h : Lg w K M E S 1 false base (.slice none 0 0) []) :
    Calls Tryf.prog 7 #[logv K M E S lvl, .map (some b)] w (Post7 ext a (if ext.toList.isEmpty = false ∧ vb = false then 1 else 0) K M E S base w) := by
  have HV := Lib.hid hv; have HO := Lib.hid hown; have HL := Lib.hid h
  have DF := Lib.hid dft15
  have LD := Lib.hid (fun w' => loader19 a h0 h1 w')
  obtain ⟨k, hk⟩ : ∃ k : Nat, k = if ext.toList.isEmpty = false ∧ vb = false then 1 else 0 := ⟨_, rfl⟩
  rw [← hk]
  have HK := Lib.hid hk
  clear hk hv hown h
  have hbl := HO.out.lt
  unfold logv ptr
  go_enter Tryf.func7, Tryf.ntmps7
  go_upto_region 2 with (first | (go_at_call 15; refine (DF.out _).mono ?_; rintro e w2 ⟨rfl, hm2, hb2⟩; have HM2 := Lib.hid hm2; have HB2 := Lib.hid hb2; clear hm2 hb2) | fail)
  have z2 : w.heap.size + 1 < w2.heap.size := by have := HM2.out.lt; simpa using this
  have hbs := HL.out.bs
  have e2 : ∀ q, q < w.heap.size → w2.heap[q]? = w.heap[q]? := fun q hq => (HB2.out.block q (by simp; omega)).trans (blk_alloc_lt _ _ _ hq)
  have O2 := Lib.hid (md_to HO.out (e2 b hbl))
  have L2 : Hid (Lg w2 K M E S 1 false base (.slice none 0 0) []) := Lib.hid (HL.out.kept (by omega) (fun q hq => e2 q (by rcases hq with rfl | rfl | rfl | rfl | hq; (have := HL.out.kb; omega); (have := HL.out.mb; omega); (have := HL.out.eb'; omega); (have := HL.out.sb; omega); cases hq)))
  have X2 : Hid (w2.heap[w.heap.size]? = some (.cells #[.func (Fn.func 8) #[] #[.pointer (some ⟨K, 0, none⟩), .pointer (some ⟨M, 0, none⟩), .pointer (some ⟨E, 0, none⟩), .pointer (some ⟨S, 0, none⟩)], .func (Fn.func 11) #[] #[.pointer (some ⟨M, 0, none⟩), .pointer (some ⟨E, 0, none⟩)], .func (Fn.func 12) #[] #[.pointer (some ⟨M, 0, none⟩), .pointer (some ⟨S, 0, none⟩)], .func (Fn.func 13) #[] #[.pointer (some ⟨M, 0, none⟩), .pointer (some ⟨S, 0, none⟩)], .int .i8 lvl, .map none] 38 (0, 0))) := Lib.hid ((HB2.out.block w.heap.size (by simp)).trans (heap_alloc_new w _))
  have M2 : Hid (MD w2 (w.heap.size + 1) 13 D0) := Lib.hid (by have := HM2.out; simpa using this)
  have B2 : Hid (∀ B, B ≤ M → B ≤ S → B ≤ E → B ≤ base → Below B w w2) := Lib.hid fun B _ _ _ h4 => ((Below.refl B w).alloc (by omega) _).trans (HB2.out.mono (by simp; omega))
  have F2 : Hid (∀ q, q ≠ M → q ≠ S → q ≠ E → q < w.heap.size → w2.heap[q]? = w.heap[q]?) := Lib.hid fun q _ _ _ hq => e2 q hq
  clear HM2 HB2 DF e2
  go_wp2_with (first | (at_range; refine wpList_range_own _ rfl _ 25 rfl 9 24 law9 Tryf.underlying25 self b n (D1 ext a) rfl O2.out ?_; intro w3 hrg3 hg3 hs3) | fail)
  try go_frame
  have C3 : Cl ext a k K M E S lvl base b n w2.heap.size w w3 := by
    refine ⟨_, _, hrg3, fun l h => h, false, .slice none 0 0, [], L2.out.kept hg3.size (fun q hq => hg3.block q (by have := L2.out.bs; rcases hq with rfl | rfl | rfl | rfl | hq; (have := L2.out.kb; omega); (have := L2.out.mb; omega); (have := L2.out.eb'; omega); (have := L2.out.sb; omega); cases hq) (by intro e; cases e)), fun q _ e => (by cases e), (hg3.block _ (by omega) (by intro e; cases e)).trans X2.out, .inl ⟨D1_self ext a, md_to M2.out (hg3.block _ (by omega) (by intro e; cases e)), rfl, rfl, rfl⟩, fun B g1 g2 g3 g4 => (B2.out B g1 g2 g3 g4).grown hg3 (by omega) (fun j hj => by cases hj), fun q g1 g2 g3 g4 => (hg3.block q (by omega) (by intro e; cases e)).trans (F2.out q g1 g2 g3 g4)⟩
  have HC := Lib.hid C3
  clear C3 hrg3 hg3 hs3 O2 L2 X2 M2 B2 F2
  generalize hR : w2.heap.size = R at HC ⊢
  have zR : w.heap.size + 1 < R := by omega
  clear hR z2
  go_loopw [6, 7] (fun _ _ wr => Cl ext a k K M E S lvl base b n R w wr) (fun _ _ wr => wr.rangeLeft b R)
  case atStart => exact HC.out
  case round =>
    obtain ⟨left, cnt, hrg, hleft, eb, v, ms, hlg, hown, hbx, hst, hbel, hfar⟩ := hrel
    have HRG := Lib.hid hrg; have HLG := Lib.hid hlg; have HOWN := Lib.hid hown; have HBX := Lib.hid hbx; have HST := Lib.hid hst; have HBEL := Lib.hid hbel; have HFAR := Lib.hid hfar
    clear hrg hlg hown hbx hst hbel hfar HC
    go_wp2_with (at_next; refine wpList_next_ranges (α := ByteArray) (β := Value) _ rfl _ rfl 9 law9 self Value.string id (fun key kl' h => by obtain ⟨x, e, _⟩ := key_inv h; exact ⟨x, e⟩) (fun v y h => ⟨v, rfl⟩) b R n (D1 ext a) left cnt rfl HRG.out ?_ ?_)
    · intro hc0 hl0
      have hfin : MD wr (w.heap.size + 1) 14 (Df ext a) ∧ ms.length = k := by
        rcases HST.out with ⟨h, _⟩ | ⟨_, h2, h3⟩
        · rw [hl0] at h; cases h
        · exact ⟨h2, h3⟩
      have HF := Lib.hid hfin
      clear hc0 hl0 hfin
      go_wp2
      go_ret
      exact ⟨rfl, HF.out.1, ⟨eb, v, ms, HLG.out, HF.out.2, HOWN.out _ (.inr (.inl rfl))⟩, HBEL.out, HFAR.out⟩
    · intro x c kl' y1 y2 w1 cnt1 hkx hlk hR hat hrg1 hlt hg1 hs1 hen
      obtain ⟨x', ex, ekl, hxs⟩ := key_inv hkx
      injection ex with ex
      subst ex
      subst ekl
      obtain rfl : x = ext := kl_inj (D1_has _ _ _ (hleft _ hlk))
      have hkl : (kl x).sameKey (kl x) = true := WideAt.sameKey_self (kl_key x)
      have hy : y1 = .held (.int .u16 a) := ((hat .nil).symm.trans (D1_at x a .nil))
      obtain rfl : c = .int .u16 a := by
        unfold self at hR
        injection hR with hR
        injection hR with hR1 hR2
        rw [hy] at hR1
        injection hR1
      obtain ⟨hG, rfl, rfl, rfl⟩ : MD wr (w.heap.size + 1) 13 D0 ∧ v = .slice none 0 0 ∧ ms = [] ∧ eb = false := by
        rcases HST.out with ⟨_, h1, h2, h3, h4⟩ | ⟨h1, _⟩
        · exact ⟨h1, h2, h3, h4⟩
        · rw [h1] at hlk; cases hlk
      have hRb : base ≤ R := by omega
      have k1 : ∀ q, q ≠ R → q < wr.heap.size → w1.heap[q]? = wr.heap[q]? := fun q hq hlt => hg1.block q hlt (fun e => hq (Option.some.inj e))
      have bG := hG.lt
      have bb := HLG.out.bs
      have HL1 : Hid (Lg w1 K M E S 1 false base (.slice none 0 0) []) := Lib.hid (HLG.out.kept (by omega) (fun q hq => k1 q (by rcases hq with rfl | rfl | rfl | rfl | hq; (have := HL.out.kb; omega); (have := HL.out.mb; omega); (have := HL.out.eb'; omega); (have := HL.out.sb; omega); cases hq) (by rcases hq with rfl | rfl | rfl | rfl | hq; (have := HL.out.kb; omega); (have := HL.out.mb; omega); (have := HL.out.eb'; omega); (have := HL.out.sb; omega); cases hq)))
      have HBX1 : Hid (w1.heap[w.heap.size]? = some (.cells #[.func (Fn.func 8) #[] #[.pointer (some ⟨K, 0, none⟩), .pointer (some ⟨M, 0, none⟩), .pointer (some ⟨E, 0, none⟩), .pointer (some ⟨S, 0, none⟩)], .func (Fn.func 11) #[] #[.pointer (some ⟨M, 0, none⟩), .pointer (some ⟨E, 0, none⟩)], .func (Fn.func 12) #[] #[.pointer (some ⟨M, 0, none⟩), .pointer (some ⟨S, 0, none⟩)], .func (Fn.func 13) #[] #[.pointer (some ⟨M, 0, none⟩), .pointer (some ⟨S, 0, none⟩)], .int .i8 lvl, .map none] 38 (0, 0))) := Lib.hid ((k1 _ (by omega) (by omega)).trans HBX.out)
      have HG1 : Hid (MD w1 (w.heap.size + 1) 13 D0) := Lib.hid (md_to hG (k1 _ (by omega) bG))
      have HB1 : Hid (∀ B, B ≤ M → B ≤ S → B ≤ E → B ≤ base → Below B w w1) := Lib.hid fun B g1 g2 g3 g4 => (HBEL.out B g1 g2 g3 g4).grown hg1 (by omega) (fun j hj => by cases hj; omega)
      have HF1 : Hid (∀ q, q ≠ M → q ≠ S → q ≠ E → q < w.heap.size → w1.heap[q]? = w.heap[q]?) := Lib.hid fun q g1 g2 g3 g4 => (k1 q (by omega) (by have := HBX.out; have := (Array.getElem?_eq_some_iff.1 this).1; omega)).trans (HFAR.out q g1 g2 g3 g4)
      have HR1 := Lib.hid hrg1; have HLT := Lib.hid hlt; have HKX := Lib.hid hkx
      -- what the round leaves
      have fin : ∀ (eb : Bool) (v' : Value) (ms' : List Ms) (wq w9 : World), Lg wq K M E S 1 eb base v' ms' → ms'.length = k → (∀ q, q = w.heap.size ∨ q = w.heap.size + 1 ∨ q = R ∨ q = b → v'.ownBlock ≠ some q) → wq.heap[w.heap.size]? = some (.cells #[.func (Fn.func 8) #[] #[.pointer (some ⟨K, 0, none⟩), .pointer (some ⟨M, 0, none⟩), .pointer (some ⟨E, 0, none⟩), .pointer (some ⟨S, 0, none⟩)], .func (Fn.func 11) #[] #[.pointer (some ⟨M, 0, none⟩), .pointer (some ⟨E, 0, none⟩)], .func (Fn.func 12) #[] #[.pointer (some ⟨M, 0, none⟩), .pointer (some ⟨S, 0, none⟩)], .func (Fn.func 13) #[] #[.pointer (some ⟨M, 0, none⟩), .pointer (some ⟨S, 0, none⟩)], .int .i8 lvl, .map none] 38 (0, 0)) → wq.ranges Tryf.prog 9 self b R n (D1 x a) (fun z => left z && !z.sameKey (kl x)) cnt1 → (∀ B, B ≤ M → B ≤ S → B ≤ E → B ≤ base → Below B w wq) → (∀ q, q ≠ M → q ≠ S → q ≠ E → q < w.heap.size → wq.heap[q]? = w.heap[q]?) → MD w9 (w.heap.size + 1) 14 (Df x a) → wq.grownBy w9 (some (w.heap.size + 1)) → Hid (Cl x a k K M E S lvl base b n R w w9) ∧ Hid (w9.rangeLeft b R < wr.rangeLeft b R) := by
        intro eb v' ms' wq w9 f1 f2 f3 f4 f5 f6 f9 f7 f8
        have hrg9 := f5.kept f8 (fun e => by have := Option.some.inj e; omega) (fun e => by have := Option.some.inj e; omega)
        have bq := f1.bs
        refine ⟨Lib.hid ⟨_, _, hrg9, fun l hl => hleft l (by revert hl; cases left l <;> simp), eb, v', ms', f1.kept f8.size (fun q hq => f8.block q (by rcases hq with rfl | rfl | rfl | rfl | hq; (have := f1.kb; omega); (have := f1.mb; omega); (have := f1.eb'; omega); (have := f1.sb; omega); exact (f1.row.lt q hq).2) (by rcases hq with rfl | rfl | rfl | rfl | hq; (have := f1.kb; intro e; have := Option.some.inj e; omega); (have := f1.mb; intro e; have := Option.some.inj e; omega); (have := f1.eb'; intro e; have := Option.some.inj e; omega); (have := f1.sb; intro e; have := Option.some.inj e; omega); (intro e; have := Option.some.inj e; exact f3 _ (.inr (.inl rfl)) (by rw [← this]; exact hq)))), f3, (f8.block _ (Array.getElem?_eq_some_iff.1 f4).1 (fun e => by have := Option.some.inj e; omega)).trans f4, .inr ⟨by show (left (kl x) && !(kl x).sameKey (kl x)) = false; rw [hkl]; simp, f7, f2⟩, fun B g1 g2 g3 g4 => (f6 B g1 g2 g3 g4).grown f8 (by omega) (fun j hj => by cases hj; omega), fun q g1 g2 g3 g4 => (f8.block q (by have := (Array.getElem?_eq_some_iff.1 f4).1; omega) (fun e => by have := Option.some.inj e; omega)).trans (f9 q g1 g2 g3 g4)⟩, Lib.hid ?_⟩
        rw [hrg9.left_eq, HRG.out.left_eq]; exact HLT.out
      have FIN := Lib.hid fin
      clear fin hrg1 hlt hkx hG k1 hR hy hat hg1 hs1 hlk HST HLG HOWN HBX HBEL HFAR HO
      by_cases hq : x.toList.isEmpty = false ∧ vb = false
      · obtain ⟨hE, rfl⟩ := hq
        have hE' : ¬ x.toList = [] := fun e => by rw [e] at hE; cases hE
        have hk1 : k = 1 := by rw [HK.out, if_pos ⟨hE, rfl⟩]
        subst hk1
        go_upto_region 6 with (first | (go_at_call 16; refine (HV.out _).mono ?_; rintro e w4 ⟨rfl, rfl⟩) | fail)
        refine wp_region_held_drew (S := fun w' => w'.heap[w.heap.size]? = some (.cells #[.func (Fn.func 8) #[] #[.pointer (some ⟨K, 0, none⟩), .pointer (some ⟨M, 0, none⟩), .pointer (some ⟨E, 0, none⟩), .pointer (some ⟨S, 0, none⟩)], .func (Fn.func 11) #[] #[.pointer (some ⟨M, 0, none⟩), .pointer (some ⟨E, 0, none⟩)], .func (Fn.func 12) #[] #[.pointer (some ⟨M, 0, none⟩), .pointer (some ⟨S, 0, none⟩)], .func (Fn.func 13) #[] #[.pointer (some ⟨M, 0, none⟩), .pointer (some ⟨S, 0, none⟩)], .int .i8 lvl, .map none] 38 (0, 0))) (by kernel_rfl) HBX1.out (fun hHeld => ?_)
        refine wpAnyH_take (i := 0) (oi := { dst := some 23, op := Op.load 38 (Operand.tmp 2), type := 38, pos := "api_impl.go:536", after := #[], guard := none }) (v := ?_) rfl (by kernel_rfl) (by kernel_rfl) (by kernel_rfl) (fun _ _ _ h => h) (Or.inl ⟨by rfl, ?_⟩) (by assumption) ?_
        rotate_left
        · intro wq hSw
          have a0 : wq.cell? ⟨w.heap.size, 0, none⟩ = some (.func (Fn.func 8) #[] #[.pointer (some ⟨K, 0, none⟩), .pointer (some ⟨M, 0, none⟩), .pointer (some ⟨E, 0, none⟩), .pointer (some ⟨S, 0, none⟩)]) := by simp [World.cell?, hSw]
          have a1 : wq.cell? ⟨w.heap.size, 1, none⟩ = some (.func (Fn.func 11) #[] #[.pointer (some ⟨M, 0, none⟩), .pointer (some ⟨E, 0, none⟩)]) := by simp [World.cell?, hSw]
          have a2 : wq.cell? ⟨w.heap.size, 2, none⟩ = some (.func (Fn.func 12) #[] #[.pointer (some ⟨M, 0, none⟩), .pointer (some ⟨S, 0, none⟩)]) := by simp [World.cell?, hSw]
          have a3 : wq.cell? ⟨w.heap.size, 3, none⟩ = some (.func (Fn.func 13) #[] #[.pointer (some ⟨M, 0, none⟩), .pointer (some ⟨S, 0, none⟩)]) := by simp [World.cell?, hSw]
          have a4 : wq.cell? ⟨w.heap.size, 4, none⟩ = some (.int .i8 lvl) := by simp [World.cell?, hSw]
          have a5 : wq.cell? ⟨w.heap.size, 5, none⟩ = some (.map none) := by simp [World.cell?, hSw]
          go_simp
          try (with_reducible rfl)
        try go_frame
        refine wpAnyH_take (i := 1) (oi := { dst := some 24, op := Op.build 65 #[], type := 65, pos := "api_impl.go:536", after := #[], guard := none }) (v := ?_) rfl (by kernel_rfl) (by kernel_rfl) (by kernel_rfl) (fun _ _ _ h => h) (Or.inl ⟨by rfl, ?_⟩) (by assumption) ?_
        rotate_left
        · intro wq hSw
          have a0 : wq.cell? ⟨w.heap.size, 0, none⟩ = some (.func (Fn.func 8) #[] #[.pointer (some ⟨K, 0, none⟩), .pointer (some ⟨M, 0, none⟩), .pointer (some ⟨E, 0, none⟩), .pointer (some ⟨S, 0, none⟩)]) := by simp [World.cell?, hSw]
          have a1 : wq.cell? ⟨w.heap.size, 1, none⟩ = some (.func (Fn.func 11) #[] #[.pointer (some ⟨M, 0, none⟩), .pointer (some ⟨E, 0, none⟩)]) := by simp [World.cell?, hSw]
          have a2 : wq.cell? ⟨w.heap.size, 2, none⟩ = some (.func (Fn.func 12) #[] #[.pointer (some ⟨M, 0, none⟩), .pointer (some ⟨S, 0, none⟩)]) := by simp [World.cell?, hSw]
          have a3 : wq.cell? ⟨w.heap.size, 3, none⟩ = some (.func (Fn.func 13) #[] #[.pointer (some ⟨M, 0, none⟩), .pointer (some ⟨S, 0, none⟩)]) := by simp [World.cell?, hSw]
          have a4 : wq.cell? ⟨w.heap.size, 4, none⟩ = some (.int .i8 lvl) := by simp [World.cell?, hSw]
          have a5 : wq.cell? ⟨w.heap.size, 5, none⟩ = some (.map none) := by simp [World.cell?, hSw]
          go_simp
          try (with_reducible rfl)
        try go_frame
        refine wpAnyH_take (i := 2) (oi := { dst := some 25, op := Op.move (Operand.tmp 6), type := 9, pos := "api_impl.go:536", after := #[], guard := none }) (v := ?_) rfl (by kernel_rfl) (by kernel_rfl) (by kernel_rfl) (fun _ _ _ h => h) (Or.inl ⟨by rfl, ?_⟩) (by assumption) ?_
        rotate_left
        · intro wq hSw
          have a0 : wq.cell? ⟨w.heap.size, 0, none⟩ = some (.func (Fn.func 8) #[] #[.pointer (some ⟨K, 0, none⟩), .pointer (some ⟨M, 0, none⟩), .pointer (some ⟨E, 0, none⟩), .pointer (some ⟨S, 0, none⟩)]) := by simp [World.cell?, hSw]
          have a1 : wq.cell? ⟨w.heap.size, 1, none⟩ = some (.func (Fn.func 11) #[] #[.pointer (some ⟨M, 0, none⟩), .pointer (some ⟨E, 0, none⟩)]) := by simp [World.cell?, hSw]
          have a2 : wq.cell? ⟨w.heap.size, 2, none⟩ = some (.func (Fn.func 12) #[] #[.pointer (some ⟨M, 0, none⟩), .pointer (some ⟨S, 0, none⟩)]) := by simp [World.cell?, hSw]
          have a3 : wq.cell? ⟨w.heap.size, 3, none⟩ = some (.func (Fn.func 13) #[] #[.pointer (some ⟨M, 0, none⟩), .pointer (some ⟨S, 0, none⟩)]) := by simp [World.cell?, hSw]
          have a4 : wq.cell? ⟨w.heap.size, 4, none⟩ = some (.int .i8 lvl) := by simp [World.cell?, hSw]
          have a5 : wq.cell? ⟨w.heap.size, 5, none⟩ = some (.map none) := by simp [World.cell?, hSw]
          go_simp
          try (with_reducible rfl)
        try go_frame
        refine wpAnyH_take (i := 3) (oi := { dst := some 26, op := Op.makeInterface 9 (Operand.tmp 25), type := 20, pos := "api_impl.go:536", after := #[{ on := 2, ground := Ground.data }], guard := none }) (v := ?_) rfl (by kernel_rfl) (by kernel_rfl) (by kernel_rfl) (fun _ _ _ h => h) (Or.inl ⟨by rfl, ?_⟩) (by assumption) ?_
        rotate_left
        · intro wq hSw
          have a0 : wq.cell? ⟨w.heap.size, 0, none⟩ = some (.func (Fn.func 8) #[] #[.pointer (some ⟨K, 0, none⟩), .pointer (some ⟨M, 0, none⟩), .pointer (some ⟨E, 0, none⟩), .pointer (some ⟨S, 0, none⟩)]) := by simp [World.cell?, hSw]
          have a1 : wq.cell? ⟨w.heap.size, 1, none⟩ = some (.func (Fn.func 11) #[] #[.pointer (some ⟨M, 0, none⟩), .pointer (some ⟨E, 0, none⟩)]) := by simp [World.cell?, hSw]
          have a2 : wq.cell? ⟨w.heap.size, 2, none⟩ = some (.func (Fn.func 12) #[] #[.pointer (some ⟨M, 0, none⟩), .pointer (some ⟨S, 0, none⟩)]) := by simp [World.cell?, hSw]
          have a3 : wq.cell? ⟨w.heap.size, 3, none⟩ = some (.func (Fn.func 13) #[] #[.pointer (some ⟨M, 0, none⟩), .pointer (some ⟨S, 0, none⟩)]) := by simp [World.cell?, hSw]
          have a4 : wq.cell? ⟨w.heap.size, 4, none⟩ = some (.int .i8 lvl) := by simp [World.cell?, hSw]
          have a5 : wq.cell? ⟨w.heap.size, 5, none⟩ = some (.map none) := by simp [World.cell?, hSw]
          go_simp
          try (with_reducible rfl)
        try go_frame
        refine wpAnyH_ready (rs := [4]) (by kernel_rfl) (by simp) ?_
        refine AllReadyH.cons rfl (fun K' hK => ?_) AllReadyH.nil
        have zx := (Array.getElem?_eq_some_iff.1 HBX1.out).1
        have y2 : ∀ o, ((w1.alloc o).drew).heap[w.heap.size]? = some (.cells #[.func (Fn.func 8) #[] #[.pointer (some ⟨K, 0, none⟩), .pointer (some ⟨M, 0, none⟩), .pointer (some ⟨E, 0, none⟩), .pointer (some ⟨S, 0, none⟩)], .func (Fn.func 11) #[] #[.pointer (some ⟨M, 0, none⟩), .pointer (some ⟨E, 0, none⟩)], .func (Fn.func 12) #[] #[.pointer (some ⟨M, 0, none⟩), .pointer (some ⟨S, 0, none⟩)], .func (Fn.func 13) #[] #[.pointer (some ⟨M, 0, none⟩), .pointer (some ⟨S, 0, none⟩)], .int .i8 lvl, .map none] 38 (0, 0)) := fun o => (blk_alloc_lt w1 o _ zx).trans HBX1.out
        go_simp
        refine hK.out _ _ (y2 _) (fun hHeld => ?_)
        clear hK K'
        try go_frame
        refine wpAnyH_ready (rs := [5]) (by kernel_rfl) (by simp) ?_
        refine AllReadyH.cons rfl (fun K' hK => ?_) AllReadyH.nil
        go_simp
        refine hK.out _ _ (y2 _) (fun hHeld => ?_)
        clear hK K'
        try go_frame
        refine wpAnyH_ready (rs := [6]) (by kernel_rfl) (by simp) ?_
        refine AllReadyH.cons rfl (fun K' hK => ?_) AllReadyH.nil
        go_simp
        have L8 := ((HL1.out.alloc (.cells #[.iface 9 (.string x)] 20)).drew).drew
        have b8 := HL.out.bs
        have n1 := HL.out.mb; have n2 := HL.out.sb; have n3 := HL.out.eb'
        have GL := HG1.out.lt
        have RL := HR1.out.lt
        have bL := HR1.out.owns.lt
        refine (errF K M E S lvl false base (.slice none 0 0) [] _ _ L8 (by show 0 < _; omega)).mono ?_
        rintro e w8 ⟨rfl, hg, far, bel⟩
        obtain ⟨v8, hg8, hn8⟩ := hg
        have E8 : ∀ q, q ≠ M → q ≠ S → q ≠ E → q < w1.heap.size → w8.heap[q]? = w1.heap[q]? := fun q g1 g2 g3 g4 => (far q g1 g2 g3 (fun e => (by cases e)) (by simp; omega)).trans (blk_alloc_lt w1 _ q g4)
        have x8 : w8.heap[w.heap.size]? = some (.cells #[.func (Fn.func 8) #[] #[.pointer (some ⟨K, 0, none⟩), .pointer (some ⟨M, 0, none⟩), .pointer (some ⟨E, 0, none⟩), .pointer (some ⟨S, 0, none⟩)], .func (Fn.func 11) #[] #[.pointer (some ⟨M, 0, none⟩), .pointer (some ⟨E, 0, none⟩)], .func (Fn.func 12) #[] #[.pointer (some ⟨M, 0, none⟩), .pointer (some ⟨S, 0, none⟩)], .func (Fn.func 13) #[] #[.pointer (some ⟨M, 0, none⟩), .pointer (some ⟨S, 0, none⟩)], .int .i8 lvl, .map none] 38 (0, 0)) := (E8 _ (by omega) (by omega) (by omega) zx).trans HBX1.out
        have N8 : Hid (∀ q, q = w.heap.size ∨ q = w.heap.size + 1 ∨ q = R ∨ q = b → v8.ownBlock ≠ some q) := Lib.hid fun q hq => hn8 q (by simp; rcases hq with rfl | rfl | rfl | rfl <;> omega) (fun e => (by cases e))
        have R8 := Lib.hid (rg_to HR1.out (E8 b hne.2.1 hne.2.2.2 hne.2.2.1 bL) (E8 R (by omega) (by omega) (by omega) RL))
        have G8 := Lib.hid (md_to HG1.out (E8 _ (by omega) (by omega) (by omega) GL))
        have B8 : Hid (∀ B, B ≤ M → B ≤ S → B ≤ E → B ≤ base → Below B w w8) := Lib.hid fun B g1 g2 g3 g4 => (((HB1.out B g1 g2 g3 g4).alloc (by omega) _).drew.drew).trans (bel B g1 g2 g3 g4)
        have F8 : Hid (∀ q, q ≠ M → q ≠ S → q ≠ E → q < w.heap.size → w8.heap[q]? = w.heap[q]?) := Lib.hid fun q g1 g2 g3 g4 => (E8 q g1 g2 g3 (by omega)).trans (HF1.out q g1 g2 g3 g4)
        have HG8 := Lib.hid hg8
        clear hg8 hn8 far bel E8 y2
        go_simp
        refine hK.out _ _ x8 (fun hHeld => ?_)
        clear hK K'
        try go_frame
        have X8 := Lib.hid x8
        clear x8 L8
        refine wpAnyH_done (by kernel_rfl) ?_ _
        go_wp2_with (first | (go_at_call 19; refine (LD.out _).mono ?_; rintro e w4 ⟨rfl, rfl⟩) | (at_mapUpdate; refine wpList_mapUpdate_own _ rfl _ _ _ 26 rfl 9 29 law9 Tryf.underlying26 self (w.heap.size + 1) _ _ rfl G8.out (by unfold maxLen; omega) _ _ _ rfl rfl HKX.out _ [] rfl ?_; intro w9 hout9 hg9; go_frame) | fail)
        obtain ⟨F1, F2⟩ := FIN.out true v8 _ w8 w9 HG8.out rfl N8.out X8.out R8.out B8.out F8.out hout9 hg9
        exact ⟨F1.out, F2.out⟩
      · have hk0 : k = 0 := by rw [HK.out, if_neg hq]
        subst hk0
        have F0 := Lib.hid (fun w9 => FIN.out false (.slice none 0 0) [] w1 w9 HL1.out rfl (fun q _ e => (by cases e)) HBX1.out HR1.out HB1.out HF1.out)
        have e0 : x.toList.isEmpty = true ∨ (x.toList.isEmpty = false ∧ vb = true) := by
          cases h1 : x.toList.isEmpty <;> cases h2 : vb <;> simp_all
        have e1 : (x.toList.isEmpty = true ∧ x.toList = []) ∨ ((x.toList.isEmpty = false ∧ ¬ x.toList = []) ∧ vb = true) := by
          rcases e0 with h | ⟨h, h2⟩
          · exact .inl ⟨h, List.isEmpty_iff.1 h⟩
          · exact .inr ⟨⟨h, fun e => by rw [e] at h; cases h⟩, h2⟩
        clear e0
        rcases e1 with ⟨hE, hE'⟩ | ⟨⟨hE, hE'⟩, rfl⟩
        all_goals
          go_wp2_with (first | (go_at_call 16; refine (HV.out _).mono ?_; rintro e w4 ⟨rfl, rfl⟩) | (go_at_call 19; refine (LD.out _).mono ?_; rintro e w4 ⟨rfl, rfl⟩) | (at_mapUpdate; refine wpList_mapUpdate_own _ rfl _ _ _ 26 rfl 9 29 law9 Tryf.underlying26 self (w.heap.size + 1) _ _ rfl HG1.out (by unfold maxLen; omega) _ _ _ rfl rfl HKX.out _ [] rfl ?_; intro w9 hout9 hg9; go_frame) | fail)
          obtain ⟨F1, F2⟩ := F0.out w9 hout9 hg9
          exact ⟨F1.out, F2.out⟩
end Go.Proofs.YtabjelcbldjedaaFmt.LdB
