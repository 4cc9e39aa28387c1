/- An identifier quoted: onto what has been printed it appends the escapes of every code point. Conditions: code points of at most 16 bits; lengths of at most 2^20. -/
import Derived.Test.YtkepmnenafggjaaFmtEscB
import Derived.Laws.RangeAny
import Derived.Lib.OthersKept
import Derived.Deep.RegionHeld3
import Derived.Deep.DeepCutAuto
namespace Go.Proofs.YtkepmnenafggjaaFmt.Quo
open Go.RowKit Go.Deep Go.Proofs.YtkepmnenafggjaaFmt.Base Go.Proofs.YtkepmnenafggjaaFmt.Sls Go.Proofs.YtkepmnenafggjaaFmt.Byw Go.Proofs.YtkepmnenafggjaaFmt.Dec Go.Proofs.YtkepmnenafggjaaFmt.Esc Go.Proofs.YtkepmnenafggjaaFmt.EscB
set_option linter.unusedVariables false
theorem hex_fin : ∀ i : Fin 16, (({ data := #[48, 49, 50, 51, 52, 53, 54, 55, 56, 57, 65, 66, 67, 68, 69, 70] } : ByteArray)[i.val]'i.isLt) = hx i.val := by decide +kernel
theorem hex_at (i : Nat) (h : i < 16) : (({ data := #[48, 49, 50, 51, 52, 53, 54, 55, 56, 57, 65, 66, 67, 68, 69, 70] } : ByteArray)[i]'h) = hx i := hex_fin ⟨i, h⟩
theorem own_iter {w : World} {base n c K p : Nat} {A : Option Addr} {xs : List Value} {s : ByteArray} (h : Own w base 5 (.slice A n c) xs) (hk : w.heap[K]? = some (.stringIter s p)) : (Value.slice A n c).ownBlock ≠ some K := by
  intro e
  rcases h.2 with ⟨h1, _⟩ | ⟨g, cap, cur, h1, _, hh, _⟩
  · rw [h1] at e; simp [Value.ownBlock] at e
  · rw [h1] at e
    have : g = K := by simpa [Value.ownBlock] using e
    subst this
    rw [hh] at hk; cases hk
theorem grown_iter (w : World) (K : Nat) (s : ByteArray) (p : Nat) : w.grownBy (w.iterAt K s p) (some K) :=
  ⟨rfl, rfl, rfl, by rw [Lib.iterAt_size]; exact Nat.le_refl _, fun i _ hne => Lib.iterAt_other w K i s p (fun e => hne (by rw [e]))⟩
theorem Sl.iter {w0 w : World} {r : Option Nat} {base n c K p : Nat} {A : Option Addr} {L : List UInt8} {s : ByteArray} (h : Sl w0 w r base A n c L) (hk : w.heap[K]? = some (.stringIter s p)) (hK : w0.heap.size ≤ K) (p' : Nat) : Sl w0 (w.iterAt K s p') r base A n c L :=
  ⟨h.own.to (grown_iter w K s p') (.inr (own_iter h.own hk)), h.len, grown_chain h.grown (grown_iter w K s p') (fun g hg => by injection hg with hg; subst hg; exact .inr hK), h.loc⟩
theorem iter_keep {w w1 : World} {base n c K p : Nat} {A : Option Addr} {xs : List Value} {s : ByteArray} (h : Own w base 5 (.slice A n c) xs) (hk : w.heap[K]? = some (.stringIter s p)) (hg : w.grownBy w1 (Value.slice A n c).ownBlock) : w1.heap[K]? = some (.stringIter s p) :=
  (hg.block K (Array.getElem?_eq_some_iff.1 hk).1 (fun e => own_iter h hk e.symm)).trans hk
/-- s[a:p] as bytes. -/
def sub (s : ByteArray) (a p : Nat) : List UInt8 := List.take (p - a) (List.drop a s.data.toList)
theorem sub_self (s : ByteArray) (p : Nat) : sub s p p = [] := by unfold sub; simp
theorem sub_snoc (s : ByteArray) (a p : Nat) (ha : a ≤ p) (hp : p < s.size) : sub s a (p + 1) = sub s a p ++ [s[p]] := by
  unfold sub
  rw [show p + 1 - a = (p - a) + 1 by omega, List.take_succ_eq_append_getElem (by simp; omega), List.getElem_drop]
  congr 2
  show s.data.toList[a + (p - a)]'(by simp; omega) = _
  simp only [show a + (p - a) = p by omega]
  rfl
theorem sub_ext (s : ByteArray) (a p : Nat) : (s.extract a p).data.toList = sub s a p := by
  unfold sub
  rw [Lib.extract_data]
/-- The state at a round's head: run: a run of printable characters is open, from a on. -/
structure Hd (w0 : World) (r : Option Nat) (base K : Nat) (l : List UInt8) (s : ByteArray) (run : Bool) (k p : Nat) (A : Option Addr) (n c a : Nat) (m : List UInt8) (w : World) : Prop where
  pos : p = (st s k).1
  it : w.heap[K]? = some (.stringIter s p)
  sl : Sl w0 w r base A n c (l ++ m)
  ap : a ≤ p
  out : if run then m ++ sub s a p = (st s k).2 else m = (st s k).2
theorem Hd.len {w0 : World} {r : Option Nat} {base K : Nat} {l : List UInt8} {s : ByteArray} {run : Bool} {k p : Nat} {A : Option Addr} {n c a : Nat} {m : List UInt8} {w : World} (h : Hd w0 r base K l s run k p A n c a m w) (hs : s.size ≤ 1048576) : m.length ≤ 6291456 := by
  have h1 := st_len s k
  have h2 := st_le s k
  have h3 := h.out
  cases run
  · rw [if_neg (by simp)] at h3; rw [h3]; omega
  · rw [if_pos rfl] at h3
    have := congrArg List.length h3
    rw [List.length_append] at this
    omega
theorem Sl.drew {w0 w : World} {r : Option Nat} {base n c : Nat} {A : Option Addr} {L : List UInt8} (h : Sl w0 w r base A n c L) : Sl w0 w.drew r base A n c L :=
  ⟨World.ownsRow.drew h.own, h.len, ⟨h.grown.os, h.grown.tape, h.grown.output, h.grown.size, h.grown.block⟩, h.loc⟩
theorem iter_keep3 {w w1 : World} {base n c K p : Nat} {A : Option Addr} {xs : List Value} {s : ByteArray} {o : Obj} (h : Own w base 5 (.slice A n c) xs) (hk : w.heap[K]? = some (.stringIter s p)) (hg : (w.alloc o).grownBy w1 (Value.slice A n c).ownBlock) : w1.heap[K]? = some (.stringIter s p) := by
  have hlt := (Array.getElem?_eq_some_iff.1 hk).1
  exact (hg.block K (by simp; omega) (fun e => own_iter h hk e.symm)).trans ((heap_alloc_old w o hlt).trans hk)
theorem iter_keep2 {w w1 : World} {base n c K p : Nat} {A : Option Addr} {xs : List Value} {s : ByteArray} {o : Obj} (h : Own w base 5 (.slice A n c) xs) (hk : w.heap[K]? = some (.stringIter s p)) (hg : (w.alloc o).drew.grownBy w1 (Value.slice A n c).ownBlock) : w1.heap[K]? = some (.stringIter s p) := by
  have hlt := (Array.getElem?_eq_some_iff.1 hk).1
  have h2 : (w.alloc o).drew.heap[K]? = some (.stringIter s p) := (heap_alloc_old w o hlt).trans hk
  exact (hg.block K (by show K < (w.alloc o).heap.size; simp; omega) (fun e => own_iter h hk e.symm)).trans h2
section
variable {w0 w w1 : World} {r : Option Nat} {base K : Nat} {l : List UInt8} {s : ByteArray} {run : Bool} {k p : Nat} {A A' : Option Addr} {n c a n' c' : Nat} {m : List UInt8}
/-- A printable character: the run goes on, or begins. -/
theorem Hd.ascii (h : Hd w0 r base K l s run k p A n c a m w) (hp : p < s.size) (hK : w0.heap.size ≤ K) (h1 : 32 ≤ (Utf8.decode s p).1) (h2 : (Utf8.decode s p).1 ≤ 126) :
    Hd w0 r base K l s true (k + 1) (p + 1) A n c (if run then a else p) m (w.iterAt K s (p + 1)) := by
  obtain ⟨e1, e2⟩ := ascii_one s p hp h2
  have hs := st_step (s := s) (k := k) (by rw [← h.pos]; exact hp)
  rw [← h.pos, e1] at hs
  have ho : outc (Utf8.decode s p).1 = [s[p]] := by
    unfold outc
    rw [if_pos ⟨h1, h2⟩, e2, UInt8.ofNat_toNat]
  rw [ho] at hs
  refine ⟨by rw [hs], Lib.iterAt_heap w K s p (p + 1) h.it, Sl.iter h.sl h.it hK _, ?_, ?_⟩
  · split
    · have := h.ap; omega
    · omega
  · rw [if_pos rfl, hs]
    have := h.out
    cases run
    · rw [if_neg (by simp)] at this ⊢
      rw [sub_snoc s p p (Nat.le_refl _) hp, sub_self, this]; rfl
    · rw [if_pos rfl] at this ⊢
      rw [sub_snoc s a p h.ap hp, ← List.append_assoc, this]
/-- Another one: what has been printed behind it. -/
theorem Hd.other (h : Hd w0 r base K l s run k p A n c a m w) (hp : p < s.size) (it : w1.heap[K]? = some (.stringIter s (p + (Utf8.decode s p).2))) (hsl : Sl w0 w1 r base A' n' c' (l ++ ((st s k).2 ++ outc (Utf8.decode s p).1))) (ha : a ≤ p) :
    Hd w0 r base K l s false (k + 1) (p + (Utf8.decode s p).2) A' n' c' a ((st s k).2 ++ outc (Utf8.decode s p).1) w1 := by
  have hs := st_step (s := s) (k := k) (by rw [← h.pos]; exact hp)
  rw [← h.pos] at hs
  exact ⟨by rw [hs], it, hsl, by omega, by rw [if_neg (by simp), hs]⟩
theorem Sl.lies {w0 w w1 : World} {r : Option Nat} {base n c gg cap : Nat} {A : Option Addr} {L E : List UInt8} {news : List Value} {o : Obj} (h : Sl w0 w r base A n c L) (hg : (w.alloc o).drew.grownBy w1 (Value.slice A n c).ownBlock)
    (h1 : w1.ownsRow base 5 1 (.slice (some ⟨gg, 0, none⟩) ((bv L).length + 6) cap) ((bv L).length + 6) (bv L ++ news)) (hat : (Value.slice A n c).ownBlock = some gg ∨ gg = w.heap.size + 1) (hN : news = bv E) (hE : E.length = 6) :
    Sl w0 w1 r base (some ⟨gg, 0, none⟩) ((bv L).length + 6) cap (L ++ E) := by
  subst hN
  rw [← bv_append] at h1
  have e : (bv (L ++ E)).length = (bv L).length + 6 := by rw [bv_len, bv_len, List.length_append, hE]
  have hg' : (w.alloc o).grownBy w1 (Value.slice A n c).ownBlock := ⟨hg.os, hg.tape, hg.output, hg.size, hg.block⟩
  refine ⟨?_, by rw [bv_len, List.length_append, hE], grown_chain h.grown (grown_alloc' hg') h.loc, fun g hgg => ?_⟩
  · unfold Own; rw [e]; exact h1
  · have hgg : gg = g := by simpa [Value.ownBlock] using hgg
    subst hgg
    rcases hat with e | e
    · exact h.loc _ e
    · have := h.grown.size; exact .inr (by omega)
end
def Jr (w : World) (r : Option Nat) (base : Nat) (l : List UInt8) (s : ByteArray) (js f a : Value) (wr : World) : Prop :=
  ∃ (run : Bool) (k p : Nat) (A : Option Addr) (n c a0 : Nat) (m : List UInt8), js = .slice A n c ∧ f = .bool run ∧ a = .int .i64 a0 ∧ p ≤ s.size ∧ Hid (Hd w r base w.heap.size l s run k p A n c a0 m wr)
theorem Jr.mk {w : World} {r : Option Nat} {base : Nat} {l : List UInt8} {s : ByteArray} {wr : World} (run : Bool) (k p : Nat) (A : Option Addr) (n c a0 : Nat) (m : List UInt8) (hp : p ≤ s.size) (h : Hid (Hd w r base w.heap.size l s run k p A n c a0 m wr)) : Jr w r base l s (.slice A n c) (.bool run) (.int .i64 a0) wr := ⟨run, k, p, A, n, c, a0, m, rfl, rfl, rfl, hp, h⟩
def Qd (base : Nat) (r : Option Nat) (L : List UInt8) (w : World) (e : Ending) (w' : World) : Prop := ∃ A' n' c', e = .returned (.slice A' n' c') ∧ Sl w w' r base A' n' c' L
set_option maxRecDepth 20000 in
set_option maxHeartbeats 4000000 in
theorem quote17 (A : Option Addr) (n c base : Nat) (l : List UInt8) (s : ByteArray) (F : Int) (w : World) (hs : s.size ≤ 1048576) (hl : n = l.length) (hn : n ≤ 1048576) (ho : Own w base 5 (.slice A n c) (bv l)) (hb : base ≤ w.heap.size) (hbmp : Bmp s) :
    Calls Tryf.prog 17 #[.slice A n c, .string s, .int .u64 F] w (Qd base (Value.slice A n c).ownBlock (l ++ esc s) w) := by
  obtain ⟨r, hr⟩ : ∃ r, r = (Value.slice A n c).ownBlock := ⟨_, rfl⟩
  have S0 : Hid (Sl w (w.iter s 0) r base A n c (l ++ [])) := Lib.hid (by rw [hr, List.append_nil]; exact ⟨ho.alloc _, hl, World.grownBy_alloc _ _ _, fun g hg => .inl hg⟩)
  have hl20 : l.length ≤ 1048576 := by omega
  have HBM := Lib.hid hbmp
  obtain ⟨i0, hi, hz0, hz1, hz2⟩ := info_parts infoB
  have HI := Lib.hid hi; have Z0 := Lib.hid hz0; have Z1 := Lib.hid hz1; have Z2 := Lib.hid hz2
  rw [← hr]
  clear ho hl hr hbmp hi hz0 hz1 hz2
  go_enter Tryf.func17, Tryf.ntmps17
  go_wp2
  go_loopw [0, 7, 8] (fun js f a wr => Jr w r base l s js f a wr) (fun _ _ _ wr => s.size - wr.iterPos w.heap.size)
  case atStart => exact Jr.mk false 0 0 A n c 0 [] (by omega) (Lib.hid ⟨rfl, World.iter_heap w s 0, S0.out, by omega, rfl⟩)
  case round =>
    obtain ⟨run, k, p, A, n, c, a0, m, rfl, rfl, rfl, hps, HH⟩ := hrel
    have hit := HH.out.it
    have hz := HH.out.sl.grown.size
    have hap := HH.out.ap
    have hpos : wr.iterPos w.heap.size = p := by unfold World.iterPos; rw [hit]
    have HPOS := Lib.hid hpos
    clear hpos
    by_cases hlt : p < s.size
    · have hnx := fun ty => Lib.run_next_any_at (P := Tryf.prog) wr w.heap.size s p ty hit hlt
      have HIT2 := Lib.hid (Lib.iterAt_heap wr w.heap.size s p (p + (Utf8.decode s p).2) hit)
      have SI := Lib.hid (Sl.iter HH.out.sl hit (Nat.le_refl _) (p + (Utf8.decode s p).2))
      have hw := decode_width s p hlt
      obtain ⟨hw1, hw2⟩ := hw
      have hbm := HBM.out k (by rw [← HH.out.pos]; exact hlt)
      rw [← HH.out.pos] at hbm
      have hml := HH.out.len hs
      obtain ⟨W1, hW1⟩ : ∃ W1, wr.iterAt w.heap.size s (p + (Utf8.decode s p).2) = W1 := ⟨_, rfl⟩
      have hzW : wr.heap.size ≤ W1.heap.size := by rw [← hW1, Lib.iterAt_size]; exact Nat.le_refl _
      rw [hW1] at hnx HIT2 SI
      have HW1 := Lib.hid hW1
      obtain ⟨q, hq⟩ : ∃ q, (Utf8.decode s p).1 = q := ⟨_, rfl⟩
      rw [hq] at hnx hbm
      have HQ := Lib.hid hq
      clear hW1 hq hit
      have HLT := Lib.hid hlt
      by_cases hasc : 32 ≤ q ∧ q ≤ 126
      · obtain ⟨x1, x2⟩ := hasc
        have NH := Lib.hid (HH.out.ascii hlt (Nat.le_refl _) (by rw [HQ.out]; exact x1) (by rw [HQ.out]; exact x2))
        have W1e : Hid (wr.iterAt w.heap.size s (p + 1) = W1) := Lib.hid (by rw [← HW1.out, (ascii_one s p hlt (by rw [HQ.out]; exact x2)).1])
        rw [W1e.out] at NH
        have NP : Hid (W1.iterPos w.heap.size = p + 1) := Lib.hid (by unfold World.iterPos; rw [NH.out.it])
        have y1 : (32 : Int) ≤ (q : Int) := by omega
        have y2 : (q : Int) ≤ 126 := by omega
        clear HH SI HIT2 hbm
        cases run
        · go_wp2
          go_roundw
          case rel => exact Jr.mk true (k + 1) (p + 1) A n c p m (by omega) NH
          case measure => rw [NP.out, HPOS.out]; omega
        · go_wp2
          go_roundw
          case rel => exact Jr.mk true (k + 1) (p + 1) A n c a0 m (by omega) NH
          case measure => rw [NP.out, HPOS.out]; omega
      · obtain ⟨d1, d2, d3, d4, l1, l2, l3, l4, e, a1, a2, a3, a4, b1⟩ := digits q hbm
        have HE := Lib.hid (e hasc)
        have HNEWS : Hid ([.int .u8 92, .int .u8 117, .int .u8 ((({ data := #[48, 49, 50, 51, 52, 53, 54, 55, 56, 57, 65, 66, 67, 68, 69, 70] } : ByteArray)[d1]'l1).toNat : Int), .int .u8 ((({ data := #[48, 49, 50, 51, 52, 53, 54, 55, 56, 57, 65, 66, 67, 68, 69, 70] } : ByteArray)[d2]'l2).toNat : Int), .int .u8 ((({ data := #[48, 49, 50, 51, 52, 53, 54, 55, 56, 57, 65, 66, 67, 68, 69, 70] } : ByteArray)[d3]'l3).toNat : Int), .int .u8 ((({ data := #[48, 49, 50, 51, 52, 53, 54, 55, 56, 57, 65, 66, 67, 68, 69, 70] } : ByteArray)[d4]'l4).toNat : Int)] = bv (outc q)) := Lib.hid (by
          rw [HE.out, hex_at d1 l1, hex_at d2 l2, hex_at d3 l3, hex_at d4 l4]; rfl)
        have HE6 : Hid ((outc q).length = 6) := Lib.hid (by rw [HE.out]; rfl)
        have j1 : (d1 : Int) < 16 := by omega
        have j2 : (d2 : Int) < 16 := by omega
        have j3 : (d3 : Int) < 16 := by omega
        have j4 : (d4 : Int) < 16 := by omega
        have y3 : (q : Int) ≤ 65535 := by omega
        have hdec : (decide ((32 : Int) ≤ (q : Int)) && decide ((q : Int) ≤ 126)) = false := by
          by_cases h : 32 ≤ q
          · have : ¬ q ≤ 126 := fun k => hasc ⟨h, k⟩
            simp; omega
          · simp; omega
        have HASC := Lib.hid hasc
        clear e a1 hasc hdec
        cases run
        · have hm : m = (st s k).2 := by have := HH.out.out; rwa [if_neg (by simp)] at this
          obtain ⟨M, hM⟩ : ∃ M, M = (st s k).2 := ⟨_, rfl⟩
          have HM := Lib.hid hM
          have HAP := Lib.hid hap
          rw [← hM] at hm
          subst hm
          have hl6 : (bv (l ++ m)).length ≤ 16777216 := by rw [bv_len, List.length_append]; omega
          obtain ⟨M, hMm⟩ : ∃ M, M = m := ⟨_, rfl⟩
          subst hMm
          have zB1 : base ≤ W1.heap.size := by omega
          clear hM hap
          by_cases h32 : 32 ≤ q
          · have y1 : (32 : Int) ≤ (q : Int) := by omega
            have y2 : ¬ (q : Int) ≤ 126 := fun h => HASC.out ⟨h32, by omega⟩
            go_upto_region 14 with (fail)
            have zB : base ≤ W1.heap.size := by omega
            clear hs hn hb hl20 hps hz hlt hml
            refine wp_region_held_drew (S := fun _ => True) (by kernel_rfl) trivial (fun hHeld => ?_)
            refine wpAnyH_take (i := 0) (v := ?_) rfl (by kernel_rfl) (by kernel_rfl) (by kernel_rfl) (fun _ _ _ h => h) (Or.inl ⟨by rfl, ?_⟩) (by assumption) ?_
            rotate_left
            · intro wq hSw
              go_simp
              try (with_reducible rfl)
            try go_frame
            refine wpAnyH_take (i := 1) (v := ?_) rfl (by kernel_rfl) (by kernel_rfl) (by kernel_rfl) (fun _ _ _ h => h) (Or.inl ⟨by rfl, ?_⟩) (by assumption) ?_
            rotate_left
            · intro wq hSw
              go_simp
              try (with_reducible rfl)
            try go_frame
            refine wpAnyH_take (i := 2) (v := ?_) rfl (by kernel_rfl) (by kernel_rfl) (by kernel_rfl) (fun _ _ _ h => h) (Or.inl ⟨by rfl, ?_⟩) (by assumption) ?_
            rotate_left
            · intro wq hSw
              go_simp
              try (with_reducible rfl)
            try go_frame
            refine wpAnyH_take (i := 3) (v := ?_) rfl (by kernel_rfl) (by kernel_rfl) (by kernel_rfl) (fun _ _ _ h => h) (Or.inl ⟨by rfl, ?_⟩) (by assumption) ?_
            rotate_left
            · intro wq hSw
              go_simp
              try (with_reducible rfl)
            try go_frame
            refine wpAnyH_take (i := 4) (v := ?_) rfl (by kernel_rfl) (by kernel_rfl) (by kernel_rfl) (fun _ _ _ h => h) (Or.inl ⟨by rfl, ?_⟩) (by assumption) ?_
            rotate_left
            · intro wq hSw
              go_simp
              try (with_reducible rfl)
            try go_frame
            refine wpAnyH_take (i := 5) (v := ?_) rfl (by kernel_rfl) (by kernel_rfl) (by kernel_rfl) (fun _ _ _ h => h) (Or.inl ⟨by rfl, ?_⟩) (by assumption) ?_
            rotate_left
            · intro wq hSw
              go_simp
              try (with_reducible rfl)
            try go_frame
            refine wpAnyH_take (i := 6) (v := ?_) rfl (by kernel_rfl) (by kernel_rfl) (by kernel_rfl) (fun _ _ _ h => h) (Or.inl ⟨by rfl, ?_⟩) (by assumption) ?_
            rotate_left
            · intro wq hSw
              go_simp
              try (with_reducible rfl)
            try go_frame
            refine wpAnyH_take (i := 7) (v := ?_) rfl (by kernel_rfl) (by kernel_rfl) (by kernel_rfl) (fun _ _ _ h => h) (Or.inl ⟨by rfl, ?_⟩) (by assumption) ?_
            rotate_left
            · intro wq hSw
              go_simp
              try (with_reducible rfl)
            try go_frame
            refine wpAnyH_take (i := 8) (v := ?_) rfl (by kernel_rfl) (by kernel_rfl) (by kernel_rfl) (fun _ _ _ h => h) (Or.inl ⟨by rfl, ?_⟩) (by assumption) ?_
            rotate_left
            · intro wq hSw
              go_simp
              try (with_reducible rfl)
            try go_frame
            refine wpAnyH_take (i := 9) (v := ?_) rfl (by kernel_rfl) (by kernel_rfl) (by kernel_rfl) (fun _ _ _ h => h) (Or.inl ⟨by rfl, ?_⟩) (by assumption) ?_
            rotate_left
            · intro wq hSw
              go_simp
              try (with_reducible rfl)
            try go_frame
            refine wpAnyH_take (i := 10) (v := ?_) rfl (by kernel_rfl) (by kernel_rfl) (by kernel_rfl) (fun _ _ _ h => h) (Or.inl ⟨by rfl, ?_⟩) (by assumption) ?_
            rotate_left
            · intro wq hSw
              go_simp
              try (with_reducible rfl)
            try go_frame
            refine wpAnyH_take (i := 11) (v := ?_) rfl (by kernel_rfl) (by kernel_rfl) (by kernel_rfl) (fun _ _ _ h => h) (Or.inl ⟨by rfl, ?_⟩) (by assumption) ?_
            rotate_left
            · intro wq hSw
              go_simp
              try (with_reducible rfl)
            try go_frame
            refine wpAnyH_take (i := 12) (v := ?_) rfl (by kernel_rfl) (by kernel_rfl) (by kernel_rfl) (fun _ _ _ h => h) (Or.inl ⟨by rfl, ?_⟩) (by assumption) ?_
            rotate_left
            · intro wq hSw
              go_simp
              try (with_reducible rfl)
            try go_frame
            refine wpAnyH_take (i := 13) (v := ?_) rfl (by kernel_rfl) (by kernel_rfl) (by kernel_rfl) (fun _ _ _ h => h) (Or.inl ⟨by rfl, ?_⟩) (by assumption) ?_
            rotate_left
            · intro wq hSw
              go_simp
              try (with_reducible rfl)
            try go_frame
            refine wpAnyH_take (i := 14) (v := ?_) rfl (by kernel_rfl) (by kernel_rfl) (by kernel_rfl) (fun _ _ _ h => h) (Or.inl ⟨by rfl, ?_⟩) (by assumption) ?_
            rotate_left
            · intro wq hSw
              go_simp
              try (with_reducible rfl)
            try go_frame
            refine wpAnyH_ready (rs := [15]) (by kernel_rfl) (by simp) ?_
            refine AllReadyH.cons rfl (fun K hK => ?_) AllReadyH.nil
            go_simp
            refine hK.out _ _ trivial (fun hHeld => ?_)
            clear hK K
            try go_frame
            refine wpAnyH_ready (rs := [16]) (by kernel_rfl) (by simp) ?_
            refine AllReadyH.cons rfl (fun K hK => ?_) AllReadyH.nil
            have LEN6 : (bv (l ++ M)).length + 6 ≤ maxLen := by unfold maxLen; omega
            have LENB : ((bv (l ++ M)).length + 6) * 1 ≤ 140737488355328 := by omega
            refine step_append_lies _ (by rfl) _ _ _ (by rfl) base 5 i0 (.int .u8 0) 1 1 Tryf.underlying22 HI.out Z0.out Z1.out Z2.out rfl (by omega) (.slice A n c) (bv (l ++ M)).length (bv (l ++ M)) (by rfl) (World.ownsRow.drew (World.ownsRow.alloc SI.out.own _)) ⟨W1.heap.size, 0, none⟩ 6 6 [.int .u8 92, .int .u8 117, .int .u8 ((({ data := #[48, 49, 50, 51, 52, 53, 54, 55, 56, 57, 65, 66, 67, 68, 69, 70] } : ByteArray)[d1]'l1).toNat : Int), .int .u8 ((({ data := #[48, 49, 50, 51, 52, 53, 54, 55, 56, 57, 65, 66, 67, 68, 69, 70] } : ByteArray)[d2]'l2).toNat : Int), .int .u8 ((({ data := #[48, 49, 50, 51, 52, 53, 54, 55, 56, 57, 65, 66, 67, 68, 69, 70] } : ByteArray)[d3]'l3).toNat : Int), .int .u8 ((({ data := #[48, 49, 50, 51, 52, 53, 54, 55, 56, 57, 65, 66, 67, 68, 69, 70] } : ByteArray)[d4]'l4).toNat : Int)] (by rfl) (by rfl) (World.news_of_block (cs := #[.int .u8 92, .int .u8 117, .int .u8 ((({ data := #[48, 49, 50, 51, 52, 53, 54, 55, 56, 57, 65, 66, 67, 68, 69, 70] } : ByteArray)[d1]'l1).toNat : Int), .int .u8 ((({ data := #[48, 49, 50, 51, 52, 53, 54, 55, 56, 57, 65, 66, 67, 68, 69, 70] } : ByteArray)[d2]'l2).toNat : Int), .int .u8 ((({ data := #[48, 49, 50, 51, 52, 53, 54, 55, 56, 57, 65, 66, 67, 68, 69, 70] } : ByteArray)[d3]'l3).toNat : Int), .int .u8 ((({ data := #[48, 49, 50, 51, 52, 53, 54, 55, 56, 57, 65, 66, 67, 68, 69, 70] } : ByteArray)[d4]'l4).toNat : Int)]) (t := 5) (fr := (0, 0)) (heap_alloc_new W1 _)) (one_u8 [92, 117, ((({ data := #[48, 49, 50, 51, 52, 53, 54, 55, 56, 57, 65, 66, 67, 68, 69, 70] } : ByteArray)[d1]'l1).toNat : Int), ((({ data := #[48, 49, 50, 51, 52, 53, 54, 55, 56, 57, 65, 66, 67, 68, 69, 70] } : ByteArray)[d2]'l2).toNat : Int), ((({ data := #[48, 49, 50, 51, 52, 53, 54, 55, 56, 57, 65, 66, 67, 68, 69, 70] } : ByteArray)[d3]'l3).toNat : Int), ((({ data := #[48, 49, 50, 51, 52, 53, 54, 55, 56, 57, 65, 66, 67, 68, 69, 70] } : ByteArray)[d4]'l4).toNat : Int)]) (by omega) LEN6 LENB (le_alloc zB _) (W1.heap.size + 1) (by simp) ?_
            intro gg cap w9 o9 g9 at9 lt9
            refine hK.out _ _ trivial (fun hHeld => ?_)
            clear hK K
            try go_frame
            have S9 := Lib.hid (Sl.lies SI.out g9 o9 at9 HNEWS.out HE6.out)
            have IT9 := Lib.hid (iter_keep2 SI.out.own HIT2.out g9)
            clear o9 g9 at9 lt9 LEN6 LENB
            refine wpAnyH_take (i := 17) (v := ?_) rfl (by kernel_rfl) (by kernel_rfl) (by kernel_rfl) (fun _ _ _ h => h) (Or.inl ⟨by rfl, ?_⟩) (by assumption) ?_
            rotate_left
            · intro wq hSw
              go_simp
              try (with_reducible rfl)
            try go_frame
            refine wpAnyH_done (by kernel_rfl) ?_ _
            have NH : Hid (Hd w r base w.heap.size l s false (k + 1) (p + (Utf8.decode s p).2) (some ⟨gg, 0, none⟩) ((bv (l ++ M)).length + 6) cap a0 (M ++ outc q) w9) := Lib.hid (by
              have S := S9.out
              rw [List.append_assoc, HM.out, ← HQ.out] at S
              have := HH.out.other HLT.out IT9.out S HAP.out
              rw [HM.out, ← HQ.out]
              exact this)
            have NP : Hid (w9.iterPos w.heap.size = p + (Utf8.decode s p).2) := Lib.hid (by unfold World.iterPos; rw [NH.out.it])
            clear S9 IT9
            go_wp2
            go_roundw
            case rel => first | exact Jr.mk false (k + 1) (p + (Utf8.decode s p).2) _ _ cap a0 (M ++ outc q) hw2 NH | ((repeat apply Exists.intro); exact ⟨Jr.mk false (k + 1) (p + (Utf8.decode s p).2) _ _ cap a0 (M ++ outc q) hw2 NH, by simp⟩)
            case measure => rw [NP.out, HPOS.out]; have := HLT.out; omega
          · have y1 : ¬ (32 : Int) ≤ (q : Int) := by omega
            go_upto_region 14 with (fail)
            have zB : base ≤ W1.heap.size := by omega
            clear hs hn hb hl20 hps hz hlt hml
            refine wp_region_held_drew (S := fun _ => True) (by kernel_rfl) trivial (fun hHeld => ?_)
            refine wpAnyH_take (i := 0) (v := ?_) rfl (by kernel_rfl) (by kernel_rfl) (by kernel_rfl) (fun _ _ _ h => h) (Or.inl ⟨by rfl, ?_⟩) (by assumption) ?_
            rotate_left
            · intro wq hSw
              go_simp
              try (with_reducible rfl)
            try go_frame
            refine wpAnyH_take (i := 1) (v := ?_) rfl (by kernel_rfl) (by kernel_rfl) (by kernel_rfl) (fun _ _ _ h => h) (Or.inl ⟨by rfl, ?_⟩) (by assumption) ?_
            rotate_left
            · intro wq hSw
              go_simp
              try (with_reducible rfl)
            try go_frame
            refine wpAnyH_take (i := 2) (v := ?_) rfl (by kernel_rfl) (by kernel_rfl) (by kernel_rfl) (fun _ _ _ h => h) (Or.inl ⟨by rfl, ?_⟩) (by assumption) ?_
            rotate_left
            · intro wq hSw
              go_simp
              try (with_reducible rfl)
            try go_frame
            refine wpAnyH_take (i := 3) (v := ?_) rfl (by kernel_rfl) (by kernel_rfl) (by kernel_rfl) (fun _ _ _ h => h) (Or.inl ⟨by rfl, ?_⟩) (by assumption) ?_
            rotate_left
            · intro wq hSw
              go_simp
              try (with_reducible rfl)
            try go_frame
            refine wpAnyH_take (i := 4) (v := ?_) rfl (by kernel_rfl) (by kernel_rfl) (by kernel_rfl) (fun _ _ _ h => h) (Or.inl ⟨by rfl, ?_⟩) (by assumption) ?_
            rotate_left
            · intro wq hSw
              go_simp
              try (with_reducible rfl)
            try go_frame
            refine wpAnyH_take (i := 5) (v := ?_) rfl (by kernel_rfl) (by kernel_rfl) (by kernel_rfl) (fun _ _ _ h => h) (Or.inl ⟨by rfl, ?_⟩) (by assumption) ?_
            rotate_left
            · intro wq hSw
              go_simp
              try (with_reducible rfl)
            try go_frame
            refine wpAnyH_take (i := 6) (v := ?_) rfl (by kernel_rfl) (by kernel_rfl) (by kernel_rfl) (fun _ _ _ h => h) (Or.inl ⟨by rfl, ?_⟩) (by assumption) ?_
            rotate_left
            · intro wq hSw
              go_simp
              try (with_reducible rfl)
            try go_frame
            refine wpAnyH_take (i := 7) (v := ?_) rfl (by kernel_rfl) (by kernel_rfl) (by kernel_rfl) (fun _ _ _ h => h) (Or.inl ⟨by rfl, ?_⟩) (by assumption) ?_
            rotate_left
            · intro wq hSw
              go_simp
              try (with_reducible rfl)
            try go_frame
            refine wpAnyH_take (i := 8) (v := ?_) rfl (by kernel_rfl) (by kernel_rfl) (by kernel_rfl) (fun _ _ _ h => h) (Or.inl ⟨by rfl, ?_⟩) (by assumption) ?_
            rotate_left
            · intro wq hSw
              go_simp
              try (with_reducible rfl)
            try go_frame
            refine wpAnyH_take (i := 9) (v := ?_) rfl (by kernel_rfl) (by kernel_rfl) (by kernel_rfl) (fun _ _ _ h => h) (Or.inl ⟨by rfl, ?_⟩) (by assumption) ?_
            rotate_left
            · intro wq hSw
              go_simp
              try (with_reducible rfl)
            try go_frame
            refine wpAnyH_take (i := 10) (v := ?_) rfl (by kernel_rfl) (by kernel_rfl) (by kernel_rfl) (fun _ _ _ h => h) (Or.inl ⟨by rfl, ?_⟩) (by assumption) ?_
            rotate_left
            · intro wq hSw
              go_simp
              try (with_reducible rfl)
            try go_frame
            refine wpAnyH_take (i := 11) (v := ?_) rfl (by kernel_rfl) (by kernel_rfl) (by kernel_rfl) (fun _ _ _ h => h) (Or.inl ⟨by rfl, ?_⟩) (by assumption) ?_
            rotate_left
            · intro wq hSw
              go_simp
              try (with_reducible rfl)
            try go_frame
            refine wpAnyH_take (i := 12) (v := ?_) rfl (by kernel_rfl) (by kernel_rfl) (by kernel_rfl) (fun _ _ _ h => h) (Or.inl ⟨by rfl, ?_⟩) (by assumption) ?_
            rotate_left
            · intro wq hSw
              go_simp
              try (with_reducible rfl)
            try go_frame
            refine wpAnyH_take (i := 13) (v := ?_) rfl (by kernel_rfl) (by kernel_rfl) (by kernel_rfl) (fun _ _ _ h => h) (Or.inl ⟨by rfl, ?_⟩) (by assumption) ?_
            rotate_left
            · intro wq hSw
              go_simp
              try (with_reducible rfl)
            try go_frame
            refine wpAnyH_take (i := 14) (v := ?_) rfl (by kernel_rfl) (by kernel_rfl) (by kernel_rfl) (fun _ _ _ h => h) (Or.inl ⟨by rfl, ?_⟩) (by assumption) ?_
            rotate_left
            · intro wq hSw
              go_simp
              try (with_reducible rfl)
            try go_frame
            refine wpAnyH_ready (rs := [15]) (by kernel_rfl) (by simp) ?_
            refine AllReadyH.cons rfl (fun K hK => ?_) AllReadyH.nil
            go_simp
            refine hK.out _ _ trivial (fun hHeld => ?_)
            clear hK K
            try go_frame
            refine wpAnyH_ready (rs := [16]) (by kernel_rfl) (by simp) ?_
            refine AllReadyH.cons rfl (fun K hK => ?_) AllReadyH.nil
            have LEN6 : (bv (l ++ M)).length + 6 ≤ maxLen := by unfold maxLen; omega
            have LENB : ((bv (l ++ M)).length + 6) * 1 ≤ 140737488355328 := by omega
            refine step_append_lies _ (by rfl) _ _ _ (by rfl) base 5 i0 (.int .u8 0) 1 1 Tryf.underlying22 HI.out Z0.out Z1.out Z2.out rfl (by omega) (.slice A n c) (bv (l ++ M)).length (bv (l ++ M)) (by rfl) (World.ownsRow.drew (World.ownsRow.alloc SI.out.own _)) ⟨W1.heap.size, 0, none⟩ 6 6 [.int .u8 92, .int .u8 117, .int .u8 ((({ data := #[48, 49, 50, 51, 52, 53, 54, 55, 56, 57, 65, 66, 67, 68, 69, 70] } : ByteArray)[d1]'l1).toNat : Int), .int .u8 ((({ data := #[48, 49, 50, 51, 52, 53, 54, 55, 56, 57, 65, 66, 67, 68, 69, 70] } : ByteArray)[d2]'l2).toNat : Int), .int .u8 ((({ data := #[48, 49, 50, 51, 52, 53, 54, 55, 56, 57, 65, 66, 67, 68, 69, 70] } : ByteArray)[d3]'l3).toNat : Int), .int .u8 ((({ data := #[48, 49, 50, 51, 52, 53, 54, 55, 56, 57, 65, 66, 67, 68, 69, 70] } : ByteArray)[d4]'l4).toNat : Int)] (by rfl) (by rfl) (World.news_of_block (cs := #[.int .u8 92, .int .u8 117, .int .u8 ((({ data := #[48, 49, 50, 51, 52, 53, 54, 55, 56, 57, 65, 66, 67, 68, 69, 70] } : ByteArray)[d1]'l1).toNat : Int), .int .u8 ((({ data := #[48, 49, 50, 51, 52, 53, 54, 55, 56, 57, 65, 66, 67, 68, 69, 70] } : ByteArray)[d2]'l2).toNat : Int), .int .u8 ((({ data := #[48, 49, 50, 51, 52, 53, 54, 55, 56, 57, 65, 66, 67, 68, 69, 70] } : ByteArray)[d3]'l3).toNat : Int), .int .u8 ((({ data := #[48, 49, 50, 51, 52, 53, 54, 55, 56, 57, 65, 66, 67, 68, 69, 70] } : ByteArray)[d4]'l4).toNat : Int)]) (t := 5) (fr := (0, 0)) (heap_alloc_new W1 _)) (one_u8 [92, 117, ((({ data := #[48, 49, 50, 51, 52, 53, 54, 55, 56, 57, 65, 66, 67, 68, 69, 70] } : ByteArray)[d1]'l1).toNat : Int), ((({ data := #[48, 49, 50, 51, 52, 53, 54, 55, 56, 57, 65, 66, 67, 68, 69, 70] } : ByteArray)[d2]'l2).toNat : Int), ((({ data := #[48, 49, 50, 51, 52, 53, 54, 55, 56, 57, 65, 66, 67, 68, 69, 70] } : ByteArray)[d3]'l3).toNat : Int), ((({ data := #[48, 49, 50, 51, 52, 53, 54, 55, 56, 57, 65, 66, 67, 68, 69, 70] } : ByteArray)[d4]'l4).toNat : Int)]) (by omega) LEN6 LENB (le_alloc zB _) (W1.heap.size + 1) (by simp) ?_
            intro gg cap w9 o9 g9 at9 lt9
            refine hK.out _ _ trivial (fun hHeld => ?_)
            clear hK K
            try go_frame
            have S9 := Lib.hid (Sl.lies SI.out g9 o9 at9 HNEWS.out HE6.out)
            have IT9 := Lib.hid (iter_keep2 SI.out.own HIT2.out g9)
            clear o9 g9 at9 lt9 LEN6 LENB
            refine wpAnyH_take (i := 17) (v := ?_) rfl (by kernel_rfl) (by kernel_rfl) (by kernel_rfl) (fun _ _ _ h => h) (Or.inl ⟨by rfl, ?_⟩) (by assumption) ?_
            rotate_left
            · intro wq hSw
              go_simp
              try (with_reducible rfl)
            try go_frame
            refine wpAnyH_done (by kernel_rfl) ?_ _
            have NH : Hid (Hd w r base w.heap.size l s false (k + 1) (p + (Utf8.decode s p).2) (some ⟨gg, 0, none⟩) ((bv (l ++ M)).length + 6) cap a0 (M ++ outc q) w9) := Lib.hid (by
              have S := S9.out
              rw [List.append_assoc, HM.out, ← HQ.out] at S
              have := HH.out.other HLT.out IT9.out S HAP.out
              rw [HM.out, ← HQ.out]
              exact this)
            have NP : Hid (w9.iterPos w.heap.size = p + (Utf8.decode s p).2) := Lib.hid (by unfold World.iterPos; rw [NH.out.it])
            clear S9 IT9
            go_wp2
            go_roundw
            case rel => first | exact Jr.mk false (k + 1) (p + (Utf8.decode s p).2) _ _ cap a0 (M ++ outc q) hw2 NH | ((repeat apply Exists.intro); exact ⟨Jr.mk false (k + 1) (p + (Utf8.decode s p).2) _ _ cap a0 (M ++ outc q) hw2 NH, by simp⟩)
            case measure => rw [NP.out, HPOS.out]; have := HLT.out; omega
        · have hout := HH.out.out
          rw [if_pos rfl] at hout
          obtain ⟨M, hM⟩ : ∃ M, M = (st s k).2 := ⟨_, rfl⟩
          have HM := Lib.hid hM
          have HAP := Lib.hid hap
          rw [← hM] at hout
          have HOUT := Lib.hid hout
          have hl6 : (bv (l ++ M)).length ≤ 16777216 := by
            rw [bv_len, List.length_append, hM]; have := st_len s k; have := st_le s k; omega
          have hsub : (l ++ m).length + (s.extract a0 p).size ≤ 1073741824 := by
            have : (s.extract a0 p).size ≤ s.size := by simp; omega
            rw [List.length_append]; omega
          have zB1 : base ≤ W1.heap.size := by omega
          have p1 : (0 : Int) ≤ (a0 : Int) := by omega
          have p2 : (a0 : Int) ≤ (p : Int) := by omega
          have p3 : (p : Int) ≤ (s.size : Int) := by omega
          have HSUB := Lib.hid hsub
          clear hout hM hsub
          by_cases h32 : 32 ≤ q
          · have y1 : (32 : Int) ≤ (q : Int) := by omega
            have y2 : ¬ (q : Int) ≤ 126 := fun h => HASC.out ⟨h32, by omega⟩
            go_upto_region 14 with (at_builtin; refine wp_append_str _ rfl (.tmp 27) (.tmp 31) 22 9 5 rfl Tryf.underlying22 Tryf.underlying9 infoB (.slice A n c) (l ++ m) base rfl SI.out.own (s.extract a0 p) rfl HSUB.out zB1 ?_; intro v1 w2 o2 g2 loc2)
            obtain ⟨A2, n2, c2, rfl, S2⟩ := SI.out.nextStr g2 o2 loc2
            have IT2 := Lib.hid (iter_keep SI.out.own HIT2.out g2)
            have SB := Lib.hid S2
            rw [sub_ext, List.append_assoc, HOUT.out] at SB
            have zw2 := g2.size
            have zB2 : base ≤ w2.heap.size := by omega
            clear S2 o2 g2 loc2
            have zB : base ≤ w2.heap.size := by omega
            clear hs hn hb hl20 hps hz hlt hml
            refine wp_region_held_drew (S := fun _ => True) (by kernel_rfl) trivial (fun hHeld => ?_)
            refine wpAnyH_take (i := 0) (v := ?_) rfl (by kernel_rfl) (by kernel_rfl) (by kernel_rfl) (fun _ _ _ h => h) (Or.inl ⟨by rfl, ?_⟩) (by assumption) ?_
            rotate_left
            · intro wq hSw
              go_simp
              try (with_reducible rfl)
            try go_frame
            refine wpAnyH_take (i := 1) (v := ?_) rfl (by kernel_rfl) (by kernel_rfl) (by kernel_rfl) (fun _ _ _ h => h) (Or.inl ⟨by rfl, ?_⟩) (by assumption) ?_
            rotate_left
            · intro wq hSw
              go_simp
              try (with_reducible rfl)
            try go_frame
            refine wpAnyH_take (i := 2) (v := ?_) rfl (by kernel_rfl) (by kernel_rfl) (by kernel_rfl) (fun _ _ _ h => h) (Or.inl ⟨by rfl, ?_⟩) (by assumption) ?_
            rotate_left
            · intro wq hSw
              go_simp
              try (with_reducible rfl)
            try go_frame
            refine wpAnyH_take (i := 3) (v := ?_) rfl (by kernel_rfl) (by kernel_rfl) (by kernel_rfl) (fun _ _ _ h => h) (Or.inl ⟨by rfl, ?_⟩) (by assumption) ?_
            rotate_left
            · intro wq hSw
              go_simp
              try (with_reducible rfl)
            try go_frame
            refine wpAnyH_take (i := 4) (v := ?_) rfl (by kernel_rfl) (by kernel_rfl) (by kernel_rfl) (fun _ _ _ h => h) (Or.inl ⟨by rfl, ?_⟩) (by assumption) ?_
            rotate_left
            · intro wq hSw
              go_simp
              try (with_reducible rfl)
            try go_frame
            refine wpAnyH_take (i := 5) (v := ?_) rfl (by kernel_rfl) (by kernel_rfl) (by kernel_rfl) (fun _ _ _ h => h) (Or.inl ⟨by rfl, ?_⟩) (by assumption) ?_
            rotate_left
            · intro wq hSw
              go_simp
              try (with_reducible rfl)
            try go_frame
            refine wpAnyH_take (i := 6) (v := ?_) rfl (by kernel_rfl) (by kernel_rfl) (by kernel_rfl) (fun _ _ _ h => h) (Or.inl ⟨by rfl, ?_⟩) (by assumption) ?_
            rotate_left
            · intro wq hSw
              go_simp
              try (with_reducible rfl)
            try go_frame
            refine wpAnyH_take (i := 7) (v := ?_) rfl (by kernel_rfl) (by kernel_rfl) (by kernel_rfl) (fun _ _ _ h => h) (Or.inl ⟨by rfl, ?_⟩) (by assumption) ?_
            rotate_left
            · intro wq hSw
              go_simp
              try (with_reducible rfl)
            try go_frame
            refine wpAnyH_take (i := 8) (v := ?_) rfl (by kernel_rfl) (by kernel_rfl) (by kernel_rfl) (fun _ _ _ h => h) (Or.inl ⟨by rfl, ?_⟩) (by assumption) ?_
            rotate_left
            · intro wq hSw
              go_simp
              try (with_reducible rfl)
            try go_frame
            refine wpAnyH_take (i := 9) (v := ?_) rfl (by kernel_rfl) (by kernel_rfl) (by kernel_rfl) (fun _ _ _ h => h) (Or.inl ⟨by rfl, ?_⟩) (by assumption) ?_
            rotate_left
            · intro wq hSw
              go_simp
              try (with_reducible rfl)
            try go_frame
            refine wpAnyH_take (i := 10) (v := ?_) rfl (by kernel_rfl) (by kernel_rfl) (by kernel_rfl) (fun _ _ _ h => h) (Or.inl ⟨by rfl, ?_⟩) (by assumption) ?_
            rotate_left
            · intro wq hSw
              go_simp
              try (with_reducible rfl)
            try go_frame
            refine wpAnyH_take (i := 11) (v := ?_) rfl (by kernel_rfl) (by kernel_rfl) (by kernel_rfl) (fun _ _ _ h => h) (Or.inl ⟨by rfl, ?_⟩) (by assumption) ?_
            rotate_left
            · intro wq hSw
              go_simp
              try (with_reducible rfl)
            try go_frame
            refine wpAnyH_take (i := 12) (v := ?_) rfl (by kernel_rfl) (by kernel_rfl) (by kernel_rfl) (fun _ _ _ h => h) (Or.inl ⟨by rfl, ?_⟩) (by assumption) ?_
            rotate_left
            · intro wq hSw
              go_simp
              try (with_reducible rfl)
            try go_frame
            refine wpAnyH_take (i := 13) (v := ?_) rfl (by kernel_rfl) (by kernel_rfl) (by kernel_rfl) (fun _ _ _ h => h) (Or.inl ⟨by rfl, ?_⟩) (by assumption) ?_
            rotate_left
            · intro wq hSw
              go_simp
              try (with_reducible rfl)
            try go_frame
            refine wpAnyH_take (i := 14) (v := ?_) rfl (by kernel_rfl) (by kernel_rfl) (by kernel_rfl) (fun _ _ _ h => h) (Or.inl ⟨by rfl, ?_⟩) (by assumption) ?_
            rotate_left
            · intro wq hSw
              go_simp
              try (with_reducible rfl)
            try go_frame
            refine wpAnyH_ready (rs := [15]) (by kernel_rfl) (by simp) ?_
            refine AllReadyH.cons rfl (fun K hK => ?_) AllReadyH.nil
            go_simp
            refine hK.out _ _ trivial (fun hHeld => ?_)
            clear hK K
            try go_frame
            refine wpAnyH_ready (rs := [16]) (by kernel_rfl) (by simp) ?_
            refine AllReadyH.cons rfl (fun K hK => ?_) AllReadyH.nil
            have LEN6 : (bv (l ++ M)).length + 6 ≤ maxLen := by unfold maxLen; omega
            have LENB : ((bv (l ++ M)).length + 6) * 1 ≤ 140737488355328 := by omega
            refine step_append_lies _ (by rfl) _ _ _ (by rfl) base 5 i0 (.int .u8 0) 1 1 Tryf.underlying22 HI.out Z0.out Z1.out Z2.out rfl (by omega) (.slice A2 n2 c2) (bv (l ++ M)).length (bv (l ++ M)) (by rfl) (World.ownsRow.drew (World.ownsRow.alloc SB.out.own _)) ⟨w2.heap.size, 0, none⟩ 6 6 [.int .u8 92, .int .u8 117, .int .u8 ((({ data := #[48, 49, 50, 51, 52, 53, 54, 55, 56, 57, 65, 66, 67, 68, 69, 70] } : ByteArray)[d1]'l1).toNat : Int), .int .u8 ((({ data := #[48, 49, 50, 51, 52, 53, 54, 55, 56, 57, 65, 66, 67, 68, 69, 70] } : ByteArray)[d2]'l2).toNat : Int), .int .u8 ((({ data := #[48, 49, 50, 51, 52, 53, 54, 55, 56, 57, 65, 66, 67, 68, 69, 70] } : ByteArray)[d3]'l3).toNat : Int), .int .u8 ((({ data := #[48, 49, 50, 51, 52, 53, 54, 55, 56, 57, 65, 66, 67, 68, 69, 70] } : ByteArray)[d4]'l4).toNat : Int)] (by rfl) (by rfl) (World.news_of_block (cs := #[.int .u8 92, .int .u8 117, .int .u8 ((({ data := #[48, 49, 50, 51, 52, 53, 54, 55, 56, 57, 65, 66, 67, 68, 69, 70] } : ByteArray)[d1]'l1).toNat : Int), .int .u8 ((({ data := #[48, 49, 50, 51, 52, 53, 54, 55, 56, 57, 65, 66, 67, 68, 69, 70] } : ByteArray)[d2]'l2).toNat : Int), .int .u8 ((({ data := #[48, 49, 50, 51, 52, 53, 54, 55, 56, 57, 65, 66, 67, 68, 69, 70] } : ByteArray)[d3]'l3).toNat : Int), .int .u8 ((({ data := #[48, 49, 50, 51, 52, 53, 54, 55, 56, 57, 65, 66, 67, 68, 69, 70] } : ByteArray)[d4]'l4).toNat : Int)]) (t := 5) (fr := (0, 0)) (heap_alloc_new w2 _)) (one_u8 [92, 117, ((({ data := #[48, 49, 50, 51, 52, 53, 54, 55, 56, 57, 65, 66, 67, 68, 69, 70] } : ByteArray)[d1]'l1).toNat : Int), ((({ data := #[48, 49, 50, 51, 52, 53, 54, 55, 56, 57, 65, 66, 67, 68, 69, 70] } : ByteArray)[d2]'l2).toNat : Int), ((({ data := #[48, 49, 50, 51, 52, 53, 54, 55, 56, 57, 65, 66, 67, 68, 69, 70] } : ByteArray)[d3]'l3).toNat : Int), ((({ data := #[48, 49, 50, 51, 52, 53, 54, 55, 56, 57, 65, 66, 67, 68, 69, 70] } : ByteArray)[d4]'l4).toNat : Int)]) (by omega) LEN6 LENB (le_alloc zB _) (w2.heap.size + 1) (by simp) ?_
            intro gg cap w9 o9 g9 at9 lt9
            refine hK.out _ _ trivial (fun hHeld => ?_)
            clear hK K
            try go_frame
            have S9 := Lib.hid (Sl.lies SB.out g9 o9 at9 HNEWS.out HE6.out)
            have IT9 := Lib.hid (iter_keep2 SB.out.own IT2.out g9)
            clear o9 g9 at9 lt9 LEN6 LENB
            refine wpAnyH_take (i := 17) (v := ?_) rfl (by kernel_rfl) (by kernel_rfl) (by kernel_rfl) (fun _ _ _ h => h) (Or.inl ⟨by rfl, ?_⟩) (by assumption) ?_
            rotate_left
            · intro wq hSw
              go_simp
              try (with_reducible rfl)
            try go_frame
            refine wpAnyH_done (by kernel_rfl) ?_ _
            have NH : Hid (Hd w r base w.heap.size l s false (k + 1) (p + (Utf8.decode s p).2) (some ⟨gg, 0, none⟩) ((bv (l ++ M)).length + 6) cap a0 (M ++ outc q) w9) := Lib.hid (by
              have S := S9.out
              rw [List.append_assoc, HM.out, ← HQ.out] at S
              have := HH.out.other HLT.out IT9.out S HAP.out
              rw [HM.out, ← HQ.out]
              exact this)
            have NP : Hid (w9.iterPos w.heap.size = p + (Utf8.decode s p).2) := Lib.hid (by unfold World.iterPos; rw [NH.out.it])
            clear S9 IT9
            go_wp2
            go_roundw
            case rel => first | exact Jr.mk false (k + 1) (p + (Utf8.decode s p).2) _ _ cap a0 (M ++ outc q) hw2 NH | ((repeat apply Exists.intro); exact ⟨Jr.mk false (k + 1) (p + (Utf8.decode s p).2) _ _ cap a0 (M ++ outc q) hw2 NH, by simp⟩)
            case measure => rw [NP.out, HPOS.out]; have := HLT.out; omega
          · have y1 : ¬ (32 : Int) ≤ (q : Int) := by omega
            go_upto_region 14 with (at_builtin; refine wp_append_str _ rfl (.tmp 27) (.tmp 31) 22 9 5 rfl Tryf.underlying22 Tryf.underlying9 infoB (.slice A n c) (l ++ m) base rfl SI.out.own (s.extract a0 p) rfl HSUB.out zB1 ?_; intro v1 w2 o2 g2 loc2)
            obtain ⟨A2, n2, c2, rfl, S2⟩ := SI.out.nextStr g2 o2 loc2
            have IT2 := Lib.hid (iter_keep SI.out.own HIT2.out g2)
            have SB := Lib.hid S2
            rw [sub_ext, List.append_assoc, HOUT.out] at SB
            have zw2 := g2.size
            have zB2 : base ≤ w2.heap.size := by omega
            clear S2 o2 g2 loc2
            have zB : base ≤ w2.heap.size := by omega
            clear hs hn hb hl20 hps hz hlt hml
            refine wp_region_held_drew (S := fun _ => True) (by kernel_rfl) trivial (fun hHeld => ?_)
            refine wpAnyH_take (i := 0) (v := ?_) rfl (by kernel_rfl) (by kernel_rfl) (by kernel_rfl) (fun _ _ _ h => h) (Or.inl ⟨by rfl, ?_⟩) (by assumption) ?_
            rotate_left
            · intro wq hSw
              go_simp
              try (with_reducible rfl)
            try go_frame
            refine wpAnyH_take (i := 1) (v := ?_) rfl (by kernel_rfl) (by kernel_rfl) (by kernel_rfl) (fun _ _ _ h => h) (Or.inl ⟨by rfl, ?_⟩) (by assumption) ?_
            rotate_left
            · intro wq hSw
              go_simp
              try (with_reducible rfl)
            try go_frame
            refine wpAnyH_take (i := 2) (v := ?_) rfl (by kernel_rfl) (by kernel_rfl) (by kernel_rfl) (fun _ _ _ h => h) (Or.inl ⟨by rfl, ?_⟩) (by assumption) ?_
            rotate_left
            · intro wq hSw
              go_simp
              try (with_reducible rfl)
            try go_frame
            refine wpAnyH_take (i := 3) (v := ?_) rfl (by kernel_rfl) (by kernel_rfl) (by kernel_rfl) (fun _ _ _ h => h) (Or.inl ⟨by rfl, ?_⟩) (by assumption) ?_
            rotate_left
            · intro wq hSw
              go_simp
              try (with_reducible rfl)
            try go_frame
            refine wpAnyH_take (i := 4) (v := ?_) rfl (by kernel_rfl) (by kernel_rfl) (by kernel_rfl) (fun _ _ _ h => h) (Or.inl ⟨by rfl, ?_⟩) (by assumption) ?_
            rotate_left
            · intro wq hSw
              go_simp
              try (with_reducible rfl)
            try go_frame
            refine wpAnyH_take (i := 5) (v := ?_) rfl (by kernel_rfl) (by kernel_rfl) (by kernel_rfl) (fun _ _ _ h => h) (Or.inl ⟨by rfl, ?_⟩) (by assumption) ?_
            rotate_left
            · intro wq hSw
              go_simp
              try (with_reducible rfl)
            try go_frame
            refine wpAnyH_take (i := 6) (v := ?_) rfl (by kernel_rfl) (by kernel_rfl) (by kernel_rfl) (fun _ _ _ h => h) (Or.inl ⟨by rfl, ?_⟩) (by assumption) ?_
            rotate_left
            · intro wq hSw
              go_simp
              try (with_reducible rfl)
            try go_frame
            refine wpAnyH_take (i := 7) (v := ?_) rfl (by kernel_rfl) (by kernel_rfl) (by kernel_rfl) (fun _ _ _ h => h) (Or.inl ⟨by rfl, ?_⟩) (by assumption) ?_
            rotate_left
            · intro wq hSw
              go_simp
              try (with_reducible rfl)
            try go_frame
            refine wpAnyH_take (i := 8) (v := ?_) rfl (by kernel_rfl) (by kernel_rfl) (by kernel_rfl) (fun _ _ _ h => h) (Or.inl ⟨by rfl, ?_⟩) (by assumption) ?_
            rotate_left
            · intro wq hSw
              go_simp
              try (with_reducible rfl)
            try go_frame
            refine wpAnyH_take (i := 9) (v := ?_) rfl (by kernel_rfl) (by kernel_rfl) (by kernel_rfl) (fun _ _ _ h => h) (Or.inl ⟨by rfl, ?_⟩) (by assumption) ?_
            rotate_left
            · intro wq hSw
              go_simp
              try (with_reducible rfl)
            try go_frame
            refine wpAnyH_take (i := 10) (v := ?_) rfl (by kernel_rfl) (by kernel_rfl) (by kernel_rfl) (fun _ _ _ h => h) (Or.inl ⟨by rfl, ?_⟩) (by assumption) ?_
            rotate_left
            · intro wq hSw
              go_simp
              try (with_reducible rfl)
            try go_frame
            refine wpAnyH_take (i := 11) (v := ?_) rfl (by kernel_rfl) (by kernel_rfl) (by kernel_rfl) (fun _ _ _ h => h) (Or.inl ⟨by rfl, ?_⟩) (by assumption) ?_
            rotate_left
            · intro wq hSw
              go_simp
              try (with_reducible rfl)
            try go_frame
            refine wpAnyH_take (i := 12) (v := ?_) rfl (by kernel_rfl) (by kernel_rfl) (by kernel_rfl) (fun _ _ _ h => h) (Or.inl ⟨by rfl, ?_⟩) (by assumption) ?_
            rotate_left
            · intro wq hSw
              go_simp
              try (with_reducible rfl)
            try go_frame
            refine wpAnyH_take (i := 13) (v := ?_) rfl (by kernel_rfl) (by kernel_rfl) (by kernel_rfl) (fun _ _ _ h => h) (Or.inl ⟨by rfl, ?_⟩) (by assumption) ?_
            rotate_left
            · intro wq hSw
              go_simp
              try (with_reducible rfl)
            try go_frame
            refine wpAnyH_take (i := 14) (v := ?_) rfl (by kernel_rfl) (by kernel_rfl) (by kernel_rfl) (fun _ _ _ h => h) (Or.inl ⟨by rfl, ?_⟩) (by assumption) ?_
            rotate_left
            · intro wq hSw
              go_simp
              try (with_reducible rfl)
            try go_frame
            refine wpAnyH_ready (rs := [15]) (by kernel_rfl) (by simp) ?_
            refine AllReadyH.cons rfl (fun K hK => ?_) AllReadyH.nil
            go_simp
            refine hK.out _ _ trivial (fun hHeld => ?_)
            clear hK K
            try go_frame
            refine wpAnyH_ready (rs := [16]) (by kernel_rfl) (by simp) ?_
            refine AllReadyH.cons rfl (fun K hK => ?_) AllReadyH.nil
            have LEN6 : (bv (l ++ M)).length + 6 ≤ maxLen := by unfold maxLen; omega
            have LENB : ((bv (l ++ M)).length + 6) * 1 ≤ 140737488355328 := by omega
            refine step_append_lies _ (by rfl) _ _ _ (by rfl) base 5 i0 (.int .u8 0) 1 1 Tryf.underlying22 HI.out Z0.out Z1.out Z2.out rfl (by omega) (.slice A2 n2 c2) (bv (l ++ M)).length (bv (l ++ M)) (by rfl) (World.ownsRow.drew (World.ownsRow.alloc SB.out.own _)) ⟨w2.heap.size, 0, none⟩ 6 6 [.int .u8 92, .int .u8 117, .int .u8 ((({ data := #[48, 49, 50, 51, 52, 53, 54, 55, 56, 57, 65, 66, 67, 68, 69, 70] } : ByteArray)[d1]'l1).toNat : Int), .int .u8 ((({ data := #[48, 49, 50, 51, 52, 53, 54, 55, 56, 57, 65, 66, 67, 68, 69, 70] } : ByteArray)[d2]'l2).toNat : Int), .int .u8 ((({ data := #[48, 49, 50, 51, 52, 53, 54, 55, 56, 57, 65, 66, 67, 68, 69, 70] } : ByteArray)[d3]'l3).toNat : Int), .int .u8 ((({ data := #[48, 49, 50, 51, 52, 53, 54, 55, 56, 57, 65, 66, 67, 68, 69, 70] } : ByteArray)[d4]'l4).toNat : Int)] (by rfl) (by rfl) (World.news_of_block (cs := #[.int .u8 92, .int .u8 117, .int .u8 ((({ data := #[48, 49, 50, 51, 52, 53, 54, 55, 56, 57, 65, 66, 67, 68, 69, 70] } : ByteArray)[d1]'l1).toNat : Int), .int .u8 ((({ data := #[48, 49, 50, 51, 52, 53, 54, 55, 56, 57, 65, 66, 67, 68, 69, 70] } : ByteArray)[d2]'l2).toNat : Int), .int .u8 ((({ data := #[48, 49, 50, 51, 52, 53, 54, 55, 56, 57, 65, 66, 67, 68, 69, 70] } : ByteArray)[d3]'l3).toNat : Int), .int .u8 ((({ data := #[48, 49, 50, 51, 52, 53, 54, 55, 56, 57, 65, 66, 67, 68, 69, 70] } : ByteArray)[d4]'l4).toNat : Int)]) (t := 5) (fr := (0, 0)) (heap_alloc_new w2 _)) (one_u8 [92, 117, ((({ data := #[48, 49, 50, 51, 52, 53, 54, 55, 56, 57, 65, 66, 67, 68, 69, 70] } : ByteArray)[d1]'l1).toNat : Int), ((({ data := #[48, 49, 50, 51, 52, 53, 54, 55, 56, 57, 65, 66, 67, 68, 69, 70] } : ByteArray)[d2]'l2).toNat : Int), ((({ data := #[48, 49, 50, 51, 52, 53, 54, 55, 56, 57, 65, 66, 67, 68, 69, 70] } : ByteArray)[d3]'l3).toNat : Int), ((({ data := #[48, 49, 50, 51, 52, 53, 54, 55, 56, 57, 65, 66, 67, 68, 69, 70] } : ByteArray)[d4]'l4).toNat : Int)]) (by omega) LEN6 LENB (le_alloc zB _) (w2.heap.size + 1) (by simp) ?_
            intro gg cap w9 o9 g9 at9 lt9
            refine hK.out _ _ trivial (fun hHeld => ?_)
            clear hK K
            try go_frame
            have S9 := Lib.hid (Sl.lies SB.out g9 o9 at9 HNEWS.out HE6.out)
            have IT9 := Lib.hid (iter_keep2 SB.out.own IT2.out g9)
            clear o9 g9 at9 lt9 LEN6 LENB
            refine wpAnyH_take (i := 17) (v := ?_) rfl (by kernel_rfl) (by kernel_rfl) (by kernel_rfl) (fun _ _ _ h => h) (Or.inl ⟨by rfl, ?_⟩) (by assumption) ?_
            rotate_left
            · intro wq hSw
              go_simp
              try (with_reducible rfl)
            try go_frame
            refine wpAnyH_done (by kernel_rfl) ?_ _
            have NH : Hid (Hd w r base w.heap.size l s false (k + 1) (p + (Utf8.decode s p).2) (some ⟨gg, 0, none⟩) ((bv (l ++ M)).length + 6) cap a0 (M ++ outc q) w9) := Lib.hid (by
              have S := S9.out
              rw [List.append_assoc, HM.out, ← HQ.out] at S
              have := HH.out.other HLT.out IT9.out S HAP.out
              rw [HM.out, ← HQ.out]
              exact this)
            have NP : Hid (w9.iterPos w.heap.size = p + (Utf8.decode s p).2) := Lib.hid (by unfold World.iterPos; rw [NH.out.it])
            clear S9 IT9
            go_wp2
            go_roundw
            case rel => first | exact Jr.mk false (k + 1) (p + (Utf8.decode s p).2) _ _ cap a0 (M ++ outc q) hw2 NH | ((repeat apply Exists.intro); exact ⟨Jr.mk false (k + 1) (p + (Utf8.decode s p).2) _ _ cap a0 (M ++ outc q) hw2 NH, by simp⟩)
            case measure => rw [NP.out, HPOS.out]; have := HLT.out; omega
    · have hnx := fun ty => Lib.run_next_end_at (P := Tryf.prog) wr w.heap.size s p ty hit hlt
      have EE := Lib.hid (esc_of (s := s) (k := k) (by rw [← HH.out.pos]; exact hlt))
      have pe : p = s.size := by omega
      have PE := Lib.hid pe
      have hml := HH.out.len hs
      clear pe hit
      cases run
      · have S3 : Hid (Sl w wr r base A n c (l ++ esc s)) := Lib.hid (by
          have h1 := HH.out.out
          rw [if_neg (by simp)] at h1
          rw [← EE.out, ← h1]; exact HH.out.sl)
        clear HH
        go_wp2
        go_ret
        exact ⟨A, n, c, rfl, S3.out⟩
      · have hout := HH.out.out
        rw [if_pos rfl, EE.out, PE.out] at hout
        have HOUT := Lib.hid hout
        have hsub : (l ++ m).length + (s.extract a0 s.size).size ≤ 1073741824 := by
          have : (s.extract a0 s.size).size ≤ s.size := by simp
          rw [List.length_append]; omega
        have HSUB := Lib.hid hsub
        have zB1 : base ≤ wr.heap.size := by omega
        have p1 : (0 : Int) ≤ (a0 : Int) := by omega
        have p2 : (a0 : Int) ≤ (s.size : Int) := by have := PE.out; omega
        have SI := Lib.hid HH.out.sl
        clear hout hsub HH
        go_wp2_with (at_builtin; refine wp_append_str _ rfl (.tmp 63) (.tmp 66) 22 9 5 rfl Tryf.underlying22 Tryf.underlying9 infoB (.slice A n c) (l ++ m) base rfl SI.out.own (s.extract a0 s.size) rfl HSUB.out zB1 ?_; intro v1 w2 o2 g2 loc2; obtain ⟨A2, n2, c2, rfl, S2⟩ := SI.out.nextStr g2 o2 loc2; have S3 := Lib.hid S2; clear S2 o2 g2 loc2)
        rw [sub_ext, List.append_assoc, HOUT.out] at S3
        go_ret
        exact ⟨A2, n2, c2, rfl, S3.out⟩
end Go.Proofs.YtkepmnenafggjaaFmt.Quo
