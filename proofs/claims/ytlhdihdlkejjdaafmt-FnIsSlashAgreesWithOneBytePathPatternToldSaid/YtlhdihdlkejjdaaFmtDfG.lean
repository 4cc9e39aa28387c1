/- isSlash, and isValidTSConfigPathNoBaseURLPattern by its contract: its verdict is okN, of the length and the first three bytes; no message where it accepts, one where it refuses. Conditions: lengths. -/
import Derived.Test.YtlhdihdlkejjdaaFmtDfF
import Derived.Deep.DeepCutAuto
namespace Go.Proofs.YtlhdihdlkejjdaaFmt.DfG
open Go.RowKit Go.Deep Go.MuLone Go.Extern.Stop Go.Stop Go.Extern Go.Proofs.YtlhdihdlkejjdaaFmt.Base Go.Proofs.YtlhdihdlkejjdaaFmt.Sls Go.Proofs.YtlhdihdlkejjdaaFmt.DfA Go.Proofs.YtlhdihdlkejjdaaFmt.DfB Go.Proofs.YtlhdihdlkejjdaaFmt.DfC Go.Proofs.YtlhdihdlkejjdaaFmt.DfD Go.Proofs.YtlhdihdlkejjdaaFmt.DfE Go.Proofs.YtlhdihdlkejjdaaFmt.DfF
set_option linter.unusedVariables false
def sl (c : Int) : Bool := (c == 47) || (c == 92)
theorem slash13 (c : Int) (w : World) : Calls Tryf.prog 13 #[.int .u8 c] w fun e w' => e = .returned (.bool (sl c)) ∧ w = w' := by
  obtain ⟨b, hb⟩ : ∃ b, (c == 47) = b := ⟨_, rfl⟩
  have e : sl c = (b || (c == 92)) := by rw [← hb]; rfl
  rw [e]
  clear e
  go_enter Tryf.func13, Tryf.ntmps13
  cases b
  all_goals
    go_wp2
    go_ret
    exact ⟨rfl, rfl⟩
theorem slash7 (c : Int) (w : World) : Calls Tryf.prog 7 #[.int .u8 c] w fun e w' => e = .returned (.bool (sl c)) ∧ w = w' := by
  obtain ⟨b, hb⟩ : ∃ b, b = sl c := ⟨_, rfl⟩
  have HC := Lib.hid (slash13 c)
  rw [← hb] at HC ⊢
  clear hb
  go_enter Tryf.func7, Tryf.ntmps7
  go_wp2_with (first | (go_at_call 13; refine (HC.out _).mono ?_; rintro e w7 ⟨rfl, rfl⟩) | fail)
  go_ret
  exact ⟨rfl, rfl⟩
@[go_sem] theorem fmt0 : FmtStop.printed? ({ data := #[78, 111, 110, 45, 114, 101, 108, 97, 116, 105, 118, 101, 32, 112, 97, 116, 104, 32, 37, 113, 32, 105, 115, 32, 110, 111, 116, 32, 97, 108, 108, 111, 119, 101, 100, 32, 119, 104, 101, 110, 32, 34, 98, 97, 115, 101, 85, 114, 108, 34, 32, 105, 115, 32, 110, 111, 116, 32, 115, 101, 116, 32, 40, 100, 105, 100, 32, 121, 111, 117, 32, 102, 111, 114, 103, 101, 116, 32, 97, 32, 108, 101, 97, 100, 105, 110, 103, 32, 34, 46, 47, 34, 63, 41] } : ByteArray) 1 = some [(0, 113, false)] := by kernel_rfl
@[go_sem] theorem fmt0r (w : World) : (FmtDoors.printed ({ data := #[78, 111, 110, 45, 114, 101, 108, 97, 116, 105, 118, 101, 32, 112, 97, 116, 104, 32, 37, 113, 32, 105, 115, 32, 110, 111, 116, 32, 97, 108, 108, 111, 119, 101, 100, 32, 119, 104, 101, 110, 32, 34, 98, 97, 115, 101, 85, 114, 108, 34, 32, 105, 115, 32, 110, 111, 116, 32, 115, 101, 116, 32, 40, 100, 105, 100, 32, 121, 111, 117, 32, 102, 111, 114, 103, 101, 116, 32, 97, 32, 108, 101, 97, 100, 105, 110, 103, 32, 34, 46, 47, 34, 63, 41] } : ByteArray) 1).run Tryf.prog w = .ok [(0, 113, false)] w := by kernel_rfl
def byteAt (s : ByteArray) (i : Nat) : Int := if h : i < s.size then (s[i].toNat : Int) else 0
/-- The verdict, of the length and the first three bytes. -/
def V (n : Nat) (x y z : Int) : Bool := ((x == 46) && (((n : Int) == 1) || (((n : Int) == 2) && (y == 46)))) || (((x == 46) && (sl y || ((y == 46) && sl z))) || (sl x || ((((decide (97 ≤ x) && decide (x ≤ 122)) || (decide (65 ≤ x) && decide (x ≤ 90))) && (y == 58)) && sl z)))
def okN (s : ByteArray) : Bool := V s.size (byteAt s 0) (byteAt s 1) (byteAt s 2)
def P12 (b : Bool) (K M E S P : Nat) (w : World) (e : Ending) (w' : World) : Prop :=
  ((b = true ∧ e = .returned (.bool true) ∧ Lg w' K M E S (.slice none 0 0)) ∨ (b = false ∧ e = .returned (.bool false) ∧ ∃ g c, Lg w' K M E S (.slice (some ⟨g, 0, none⟩) 1 c))) ∧ (∃ p, w'.heap[P]? = some (.cells #[.pointer p] 22 (0, 0))) ∧ (∀ q, q ≠ M → q ≠ S → q ≠ P → q < w.heap.size → w'.heap[q]? = w.heap[q]?) ∧ ∀ B, B ≤ M → B ≤ S → B ≤ P → B ≤ w.heap.size → Below B w w'
theorem quit12 (K M E S P : Nat) (w : World) (o1 o2 : Obj) (h : Lg w K M E S (.slice none 0 0)) (hP : w.heap[P]? = some (.cells #[.pointer none] 22 (0, 0))) : P12 true K M E S P w (.returned (.bool true)) ((w.alloc o1).alloc o2) := by
  have kM := (Array.getElem?_eq_some_iff.1 h.m).1
  have kS := (Array.getElem?_eq_some_iff.1 h.s).1
  have kK := (Array.getElem?_eq_some_iff.1 h.k).1
  have kE := (Array.getElem?_eq_some_iff.1 h.e).1
  have kP := (Array.getElem?_eq_some_iff.1 hP).1
  have far : ∀ q, q < w.heap.size → ((w.alloc o1).alloc o2).heap[q]? = w.heap[q]? := fun q hq => (blk_alloc_lt _ _ _ (by simp; omega)).trans (blk_alloc_lt _ _ _ hq)
  exact ⟨.inl ⟨rfl, rfl, lg_block h (fun q hq => far q (by rcases hq with rfl | rfl | rfl | rfl <;> assumption))⟩, ⟨none, (far P kP).trans hP⟩, fun q _ _ _ h4 => far q h4, fun B h1 h2 h3 h4 => ((Below.refl B w).alloc h4 _).alloc (by simp; omega) _⟩
set_option maxRecDepth 20000 in
set_option maxHeartbeats 2000000 in
theorem pat12 (s : ByteArray) (K M E S P X : Nat) (w : World) (hs : s.size ≤ 1048576) (h : Lg w K M E S (.slice none 0 0)) (hP : w.heap[P]? = some (.cells #[.pointer none] 22 (0, 0))) (hX : w.rowIs X 49 10 src0) (hd : K ≠ M ∧ E ≠ M ∧ S ≠ M ∧ K ≠ S ∧ E ≠ S ∧ K ≠ P ∧ M ≠ P ∧ E ≠ P ∧ S ≠ P ∧ X ≠ P) :
    Calls Tryf.prog 12 #[.string s, logv K M E S, ptr X, ptr P, .agg #[.int .i32 0]] w (P12 (okN s) K M E S P w) := by
  have HL := Lib.hid h; have HX := Lib.hid hX; have HP := Lib.hid hP
  have Q := Lib.hid (fun o1 o2 => quit12 K M E S P w o1 o2 h hP)
  obtain ⟨x, hx⟩ : ∃ x, byteAt s 0 = x := ⟨_, rfl⟩
  obtain ⟨y, hy⟩ : ∃ y, byteAt s 1 = y := ⟨_, rfl⟩
  obtain ⟨z, hz⟩ : ∃ z, byteAt s 2 = z := ⟨_, rfl⟩
  have HX0 := Lib.hid hx; have HX1 := Lib.hid hy; have HX2 := Lib.hid hz
  obtain ⟨v, hv⟩ : ∃ v, V s.size x y z = v := ⟨_, rfl⟩
  have HV := Lib.hid hv
  have e0 : okN s = v := by unfold okN; rw [hx, hy, hz, hv]
  rw [e0]
  have SL := Lib.hid slash13
  clear h hP hX hx hy hz hv e0
  unfold logv ptr
  go_enter Tryf.func12, Tryf.ntmps12
  go_upto_if 20 with (fail)
  have kM := (Array.getElem?_eq_some_iff.1 HL.out.m).1
  have kS := (Array.getElem?_eq_some_iff.1 HL.out.s).1
  have kK := (Array.getElem?_eq_some_iff.1 HL.out.k).1
  have kE := (Array.getElem?_eq_some_iff.1 HL.out.e).1
  have kP := (Array.getElem?_eq_some_iff.1 HP.out).1
  have kX := HX.out.lt
  have farB : ∀ q, q < w.heap.size → ((w.alloc (.cells #[.func (Fn.func 16) #[] #[.pointer (some ⟨K, 0, none⟩), .pointer (some ⟨M, 0, none⟩), .pointer (some ⟨E, 0, none⟩), .pointer (some ⟨S, 0, none⟩)], .func (Fn.func 19) #[] #[.pointer (some ⟨M, 0, none⟩), .pointer (some ⟨E, 0, none⟩)], .func (Fn.func 20) #[] #[.pointer (some ⟨M, 0, none⟩), .pointer (some ⟨S, 0, none⟩)], .func (Fn.func 21) #[] #[.pointer (some ⟨M, 0, none⟩), .pointer (some ⟨S, 0, none⟩)], .int .i8 3, .map none] 37)).alloc (.cells #[.int .i32 0] 54)).heap[q]? = w.heap[q]? := fun q hq => (blk_alloc_lt _ _ _ (by simp; omega)).trans (blk_alloc_lt _ _ _ hq)
  have HLB := Lib.hid (lg_block HL.out (fun q hq => farB q (by rcases hq with rfl | rfl | rfl | rfl <;> assumption)))
  have HPB := Lib.hid ((farB P kP).trans HP.out)
  have HXB := Lib.hid ((HX.out.alloc (.cells #[.func (Fn.func 16) #[] #[.pointer (some ⟨K, 0, none⟩), .pointer (some ⟨M, 0, none⟩), .pointer (some ⟨E, 0, none⟩), .pointer (some ⟨S, 0, none⟩)], .func (Fn.func 19) #[] #[.pointer (some ⟨M, 0, none⟩), .pointer (some ⟨E, 0, none⟩)], .func (Fn.func 20) #[] #[.pointer (some ⟨M, 0, none⟩), .pointer (some ⟨S, 0, none⟩)], .func (Fn.func 21) #[] #[.pointer (some ⟨M, 0, none⟩), .pointer (some ⟨S, 0, none⟩)], .int .i8 3, .map none] 37)).alloc (.cells #[.int .i32 0] 54))
  have QB := Lib.hid (Q.out (.cells #[.func (Fn.func 16) #[] #[.pointer (some ⟨K, 0, none⟩), .pointer (some ⟨M, 0, none⟩), .pointer (some ⟨E, 0, none⟩), .pointer (some ⟨S, 0, none⟩)], .func (Fn.func 19) #[] #[.pointer (some ⟨M, 0, none⟩), .pointer (some ⟨E, 0, none⟩)], .func (Fn.func 20) #[] #[.pointer (some ⟨M, 0, none⟩), .pointer (some ⟨S, 0, none⟩)], .func (Fn.func 21) #[] #[.pointer (some ⟨M, 0, none⟩), .pointer (some ⟨S, 0, none⟩)], .int .i8 3, .map none] 37) (.cells #[.int .i32 0] 54))
  have LB := Lib.hid ((blk_alloc_lt (w.alloc (.cells #[.func (Fn.func 16) #[] #[.pointer (some ⟨K, 0, none⟩), .pointer (some ⟨M, 0, none⟩), .pointer (some ⟨E, 0, none⟩), .pointer (some ⟨S, 0, none⟩)], .func (Fn.func 19) #[] #[.pointer (some ⟨M, 0, none⟩), .pointer (some ⟨E, 0, none⟩)], .func (Fn.func 20) #[] #[.pointer (some ⟨M, 0, none⟩), .pointer (some ⟨S, 0, none⟩)], .func (Fn.func 21) #[] #[.pointer (some ⟨M, 0, none⟩), .pointer (some ⟨S, 0, none⟩)], .int .i8 3, .map none] 37)) (.cells #[.int .i32 0] 54) w.heap.size (by simp)).trans (heap_alloc_new w _))
  have TB := Lib.hid (at_new (w.alloc (.cells #[.func (Fn.func 16) #[] #[.pointer (some ⟨K, 0, none⟩), .pointer (some ⟨M, 0, none⟩), .pointer (some ⟨E, 0, none⟩), .pointer (some ⟨S, 0, none⟩)], .func (Fn.func 19) #[] #[.pointer (some ⟨M, 0, none⟩), .pointer (some ⟨E, 0, none⟩)], .func (Fn.func 20) #[] #[.pointer (some ⟨M, 0, none⟩), .pointer (some ⟨S, 0, none⟩)], .func (Fn.func 21) #[] #[.pointer (some ⟨M, 0, none⟩), .pointer (some ⟨S, 0, none⟩)], .int .i8 3, .map none] 37)) (.cells #[.int .i32 0] 54) (w.heap.size + 1) (by simp))
  have BB := Lib.hid (fun B (hB : B ≤ w.heap.size) => ((Below.refl B w).alloc hB (.cells #[.func (Fn.func 16) #[] #[.pointer (some ⟨K, 0, none⟩), .pointer (some ⟨M, 0, none⟩), .pointer (some ⟨E, 0, none⟩), .pointer (some ⟨S, 0, none⟩)], .func (Fn.func 19) #[] #[.pointer (some ⟨M, 0, none⟩), .pointer (some ⟨E, 0, none⟩)], .func (Fn.func 20) #[] #[.pointer (some ⟨M, 0, none⟩), .pointer (some ⟨S, 0, none⟩)], .func (Fn.func 21) #[] #[.pointer (some ⟨M, 0, none⟩), .pointer (some ⟨S, 0, none⟩)], .int .i8 3, .map none] 37)).alloc (by simp; omega) (.cells #[.int .i32 0] 54))
  have ZB := Lib.hid (show ((w.alloc (.cells #[.func (Fn.func 16) #[] #[.pointer (some ⟨K, 0, none⟩), .pointer (some ⟨M, 0, none⟩), .pointer (some ⟨E, 0, none⟩), .pointer (some ⟨S, 0, none⟩)], .func (Fn.func 19) #[] #[.pointer (some ⟨M, 0, none⟩), .pointer (some ⟨E, 0, none⟩)], .func (Fn.func 20) #[] #[.pointer (some ⟨M, 0, none⟩), .pointer (some ⟨S, 0, none⟩)], .func (Fn.func 21) #[] #[.pointer (some ⟨M, 0, none⟩), .pointer (some ⟨S, 0, none⟩)], .int .i8 3, .map none] 37)).alloc (.cells #[.int .i32 0] 54)).heap.size = w.heap.size + 2 by simp)
  have FB := Lib.hid farB
  clear farB Q
  generalize hwb : ((w.alloc (.cells #[.func (Fn.func 16) #[] #[.pointer (some ⟨K, 0, none⟩), .pointer (some ⟨M, 0, none⟩), .pointer (some ⟨E, 0, none⟩), .pointer (some ⟨S, 0, none⟩)], .func (Fn.func 19) #[] #[.pointer (some ⟨M, 0, none⟩), .pointer (some ⟨E, 0, none⟩)], .func (Fn.func 20) #[] #[.pointer (some ⟨M, 0, none⟩), .pointer (some ⟨S, 0, none⟩)], .func (Fn.func 21) #[] #[.pointer (some ⟨M, 0, none⟩), .pointer (some ⟨S, 0, none⟩)], .int .i8 3, .map none] 37)).alloc (.cells #[.int .i32 0] 54)) = wb at HLB HPB HXB QB LB TB BB ZB FB ⊢
  clear hwb
  go_cut [11, 12, 13] (fun s11 s12 s13 wx => s11 = .int .u8 x ∧ s12 = .int .u8 y ∧ s13 = .int .u8 z ∧ wb = wx)
  case first =>
    by_cases h0 : 0 < s.size
    all_goals by_cases h1 : 1 < s.size
    all_goals first | (exfalso; omega) | skip
    all_goals by_cases h2 : 2 < s.size
    all_goals first | (exfalso; omega) | skip
    all_goals
      have q0 := HX0.out; have q1 := HX1.out; have q2 := HX2.out
      unfold byteAt at q0 q1 q2
      first | rw [dif_pos h0] at q0 | rw [dif_neg h0] at q0
      first | rw [dif_pos h1] at q1 | rw [dif_neg h1] at q1
      first | rw [dif_pos h2] at q2 | rw [dif_neg h2] at q2
      have Q0 := Lib.hid q0; have Q1 := Lib.hid q1; have Q2 := Lib.hid q2
      clear q0 q1 q2
      have i0 : (0 < (s.size : Int)) = (0 < s.size) := by simp
      go_wp2_with (fail)
      go_meet
      first | exact ⟨by rw [← Q0.out], by rw [← Q1.out], by rw [← Q2.out], rfl⟩ | (case rel => exact ⟨by rw [← Q0.out], by rw [← Q1.out], by rw [← Q2.out], rfl⟩)
  obtain ⟨rfl, rfl, rfl, rfl⟩ := hcut
  obtain ⟨b1, Hb1⟩ : ∃ q : Bool, Hid (q = ((x == 46) && (((s.size : Int) == 1) || (((s.size : Int) == 2) && (y == 46))))) := ⟨_, Lib.hid rfl⟩
  go_upto_region 11 with (fail)
  go_cut [44] (fun s wx => s = .bool b1 ∧ wb = wx)
  case first =>
    have e := Hb1.out
    obtain ⟨g1, hg1⟩ : ∃ b, (x == 46) = b := ⟨_, rfl⟩
    obtain ⟨g2, hg2⟩ : ∃ b, ((s.size : Int) == 1) = b := ⟨_, rfl⟩
    obtain ⟨g3, hg3⟩ : ∃ b, ((s.size : Int) == 2) = b := ⟨_, rfl⟩
    obtain ⟨g4, hg4⟩ : ∃ b, (y == 46) = b := ⟨_, rfl⟩
    rw [hg1, hg2, hg3, hg4] at e
    have E := Lib.hid e
    clear e
    all_goals cases g1
    all_goals cases g2
    all_goals cases g3
    all_goals cases g4
    all_goals
      go_wp2_with (fail)
      go_meet
      all_goals first | exact ⟨by rw [E.out]; rfl, rfl⟩ | exact ⟨by rw [E.out], rfl⟩ | (case rel => first | exact ⟨by rw [E.out]; rfl, rfl⟩ | exact ⟨by rw [E.out], rfl⟩)
  obtain ⟨rfl, rfl⟩ := hcut
  rcases b1 with _ | _
  rotate_left
  · go_wp2
    go_ret
    rw [show v = true from ?_]
    · exact QB.out
    · rw [← HV.out]; unfold V; rw [← Hb1.out]; simp
  obtain ⟨b2, Hb2⟩ : ∃ q : Bool, Hid (q = ((x == 46) && (sl y || ((y == 46) && sl z)))) := ⟨_, Lib.hid rfl⟩
  go_upto_region 13 with (fail)
  go_cut [58] (fun s wx => s = .bool b2 ∧ wb = wx)
  case first =>
    have e := Hb2.out
    obtain ⟨g1, hg1⟩ : ∃ b, (x == 46) = b := ⟨_, rfl⟩
    obtain ⟨g2, hg2⟩ : ∃ b, (sl y) = b := ⟨_, rfl⟩
    obtain ⟨g3, hg3⟩ : ∃ b, (y == 46) = b := ⟨_, rfl⟩
    obtain ⟨g4, hg4⟩ : ∃ b, (sl z) = b := ⟨_, rfl⟩
    rw [hg1, hg2, hg3, hg4] at e
    have E := Lib.hid e
    clear e
    all_goals cases g1
    all_goals cases g2
    all_goals cases g3
    all_goals cases g4
    all_goals
      go_wp2_with (first | (go_at_call 13; refine (SL.out _ _).mono ?_; rintro e w7 ⟨rfl, rfl⟩) | fail)
      go_meet
      all_goals first | exact ⟨by rw [E.out]; rfl, rfl⟩ | exact ⟨by rw [E.out], rfl⟩ | (case rel => first | exact ⟨by rw [E.out]; rfl, rfl⟩ | exact ⟨by rw [E.out], rfl⟩)
  obtain ⟨rfl, rfl⟩ := hcut
  rcases b2 with _ | _
  rotate_left
  · go_wp2
    go_ret
    rw [show v = true from ?_]
    · exact QB.out
    · rw [← HV.out]; unfold V; rw [← Hb2.out]; simp
  obtain ⟨b3, Hb3⟩ : ∃ q : Bool, Hid (q = (sl x)) := ⟨_, Lib.hid rfl⟩
  go_upto_region 15 with (fail)
  go_cut [60] (fun s wx => s = .bool b3 ∧ wb = wx)
  case first =>
    have e := Hb3.out
    obtain ⟨g1, hg1⟩ : ∃ b, (sl x) = b := ⟨_, rfl⟩
    rw [hg1] at e
    have E := Lib.hid e
    clear e
    all_goals cases g1
    all_goals
      go_wp2_with (first | (go_at_call 13; refine (SL.out _ _).mono ?_; rintro e w7 ⟨rfl, rfl⟩) | fail)
      go_meet
      all_goals first | exact ⟨by rw [E.out]; rfl, rfl⟩ | exact ⟨by rw [E.out], rfl⟩ | (case rel => first | exact ⟨by rw [E.out]; rfl, rfl⟩ | exact ⟨by rw [E.out], rfl⟩)
  obtain ⟨rfl, rfl⟩ := hcut
  rcases b3 with _ | _
  rotate_left
  · go_wp2
    go_ret
    rw [show v = true from ?_]
    · exact QB.out
    · rw [← HV.out]; unfold V; rw [← Hb3.out]; simp
  obtain ⟨b4, Hb4⟩ : ∃ q : Bool, Hid (q = ((((decide (97 ≤ x) && decide (x ≤ 122)) || (decide (65 ≤ x) && decide (x ≤ 90))) && (y == 58)) && sl z)) := ⟨_, Lib.hid rfl⟩
  go_upto_region 17 with (fail)
  go_cut [82] (fun s wx => s = .bool b4 ∧ wb = wx)
  case first =>
    have e := Hb4.out
    obtain ⟨g1, hg1⟩ : ∃ b, (decide (97 ≤ x)) = b := ⟨_, rfl⟩
    obtain ⟨g2, hg2⟩ : ∃ b, (decide (x ≤ 122)) = b := ⟨_, rfl⟩
    obtain ⟨g3, hg3⟩ : ∃ b, (decide (65 ≤ x)) = b := ⟨_, rfl⟩
    obtain ⟨g4, hg4⟩ : ∃ b, (decide (x ≤ 90)) = b := ⟨_, rfl⟩
    obtain ⟨g5, hg5⟩ : ∃ b, (y == 58) = b := ⟨_, rfl⟩
    obtain ⟨g6, hg6⟩ : ∃ b, (sl z) = b := ⟨_, rfl⟩
    rw [hg1, hg2, hg3, hg4, hg5, hg6] at e
    have E := Lib.hid e
    clear e
    all_goals cases g1
    all_goals cases g2
    all_goals cases g3
    all_goals cases g4
    all_goals cases g5
    all_goals cases g6
    all_goals
      go_wp2_with (first | (go_at_call 13; refine (SL.out _ _).mono ?_; rintro e w7 ⟨rfl, rfl⟩) | fail)
      go_meet
      all_goals first | exact ⟨by rw [E.out]; rfl, rfl⟩ | exact ⟨by rw [E.out], rfl⟩ | (case rel => first | exact ⟨by rw [E.out]; rfl, rfl⟩ | exact ⟨by rw [E.out], rfl⟩)
  obtain ⟨rfl, rfl⟩ := hcut
  rcases b4 with _ | _
  rotate_left
  · go_wp2
    go_ret
    rw [show v = true from ?_]
    · exact QB.out
    · rw [← HV.out]; unfold V; rw [← Hb4.out]; simp
  have HF := Lib.hid (show v = false by rw [← HV.out]; unfold V; rw [← Hb1.out, ← Hb2.out, ← Hb3.out, ← Hb4.out]; rfl)
  clear Hb1 Hb2 Hb3 Hb4 HV HX0 HX1 HX2 SL
  have tb : wb.cell? ⟨w.heap.size + 1, 0, none⟩ = some (.int .i32 0) := by simp [World.cell?, TB.out]
  go_wp2_with (fail)
  refine (range23 X _ HXB.out).mono ?_
  rintro e w7 ⟨rfl, hb7⟩
  have HB7 := Lib.hid hb7
  have hz7 := hb7.size
  have p7 : w7.heap[P]? = some (.cells #[.pointer none] 22 (0, 0)) := (hb7.block P (by have := ZB.out; omega)).trans HPB.out
  have P7 := Lib.hid p7
  have c7 : (w7.alloc (.cells #[.int .i32 0, .int .i32 0] 76)).cell? ⟨P, 0, none⟩ = some (.pointer none) := by
    have := (blk_alloc_lt w7 (.cells #[.int .i32 0, .int .i32 0] 76) P (Array.getElem?_eq_some_iff.1 p7).1).trans p7
    simp [World.cell?, this]
  have x7 := Lib.hid ((HXB.out.of_block (hb7.block X HXB.out.lt)).alloc (.cells #[.int .i32 0, .int .i32 0] 76))
  clear hb7 p7
  go_wp2_with (fail)
  refine (tracker14 X _ x7.out).mono ?_
  rintro e w9 ⟨rfl, hb9⟩
  have HB9 := Lib.hid hb9
  clear hb9
  have hz9 := HB9.out.size
  simp only [World.size_alloc] at hz9
  have p9 : (w9.alloc (.cells #[.string { data := #[] }, .string { data := #[] }, .string { data := #[] }, .int .i32 0, .int .i32 0, .int .i32 0, .int .i32 0, .bool true, .bool false, .bool true] 57)).heap[P]? = some (.cells #[.pointer none] 22 (0, 0)) :=
    (blk_alloc_lt w9 _ P (by have := ZB.out; omega)).trans ((HB9.out.block P (by have := ZB.out; simp; omega)).trans ((blk_alloc_lt w7 _ P (by have := ZB.out; omega)).trans P7.out))
  have c9 : (w9.alloc (.cells #[.string { data := #[] }, .string { data := #[] }, .string { data := #[] }, .int .i32 0, .int .i32 0, .int .i32 0, .int .i32 0, .bool true, .bool false, .bool true] 57)).cell? ⟨P, 0, none⟩ = some (.pointer none) := by simp [World.cell?, p9]
  have f9 : (w9.alloc (.cells #[.string { data := #[] }, .string { data := #[] }, .string { data := #[] }, .int .i32 0, .int .i32 0, .int .i32 0, .int .i32 0, .bool true, .bool false, .bool true] 57)).frozen? ⟨P, 0, none⟩ = false := by simp [World.frozen?, p9]
  go_wp2_with (fail)
  have zB := ZB.out
  have z7 := HB7.out.size
  have e11 : ∀ q, q ≠ P → q < wb.heap.size → ((w9.alloc (.cells #[.string { data := #[] }, .string { data := #[] }, .string { data := #[] }, .int .i32 0, .int .i32 0, .int .i32 0, .int .i32 0, .bool true, .bool false, .bool true] 57)).setCell ⟨P, 0, none⟩ (.pointer (some ⟨w9.heap.size, 0, none⟩))).heap[q]? = wb.heap[q]? := fun q hq1 hq2 => (blk_setCell_other _ _ _ _ hq1).trans ((blk_alloc_lt w9 _ q (by omega)).trans ((HB9.out.block q (by simp; omega)).trans ((blk_alloc_lt w7 _ q (by omega)).trans (HB7.out.block q hq2))))
  have y0 := (e11 w.heap.size (by omega) (by omega)).trans LB.out
  have y1 : ((w9.alloc (.cells #[.string { data := #[] }, .string { data := #[] }, .string { data := #[] }, .int .i32 0, .int .i32 0, .int .i32 0, .int .i32 0, .bool true, .bool false, .bool true] 57)).setCell ⟨P, 0, none⟩ (.pointer (some ⟨w9.heap.size, 0, none⟩))).heap[w7.heap.size]? = some (.cells #[.int .i32 0, .int .i32 0] 76 (0, 0)) := (blk_setCell_other _ _ _ _ (by show w7.heap.size ≠ P; omega)).trans ((blk_alloc_lt w9 _ _ (by omega)).trans ((HB9.out.block _ (by simp)).trans (heap_alloc_new w7 _)))
  have y2 : ((w9.alloc (.cells #[.string { data := #[] }, .string { data := #[] }, .string { data := #[] }, .int .i32 0, .int .i32 0, .int .i32 0, .int .i32 0, .bool true, .bool false, .bool true] 57)).setCell ⟨P, 0, none⟩ (.pointer (some ⟨w9.heap.size, 0, none⟩))).heap[P]? = some (.cells #[.pointer (some ⟨w9.heap.size, 0, none⟩)] 22 (0, 0)) := by simp [World.setCell, Array.getElem?_modify, p9]
  have y3 : ((w9.alloc (.cells #[.string { data := #[] }, .string { data := #[] }, .string { data := #[] }, .int .i32 0, .int .i32 0, .int .i32 0, .int .i32 0, .bool true, .bool false, .bool true] 57)).setCell ⟨P, 0, none⟩ (.pointer (some ⟨w9.heap.size, 0, none⟩))).rowIs w9.heap.size 57 10 (trk false) := (trk_alloc w9).of_block (blk_setCell_other _ _ _ _ (by show w9.heap.size ≠ P; omega))
  have hz11 : ((w9.alloc (.cells #[.string { data := #[] }, .string { data := #[] }, .string { data := #[] }, .int .i32 0, .int .i32 0, .int .i32 0, .int .i32 0, .bool true, .bool false, .bool true] 57)).setCell ⟨P, 0, none⟩ (.pointer (some ⟨w9.heap.size, 0, none⟩))).heap.size = w9.heap.size + 1 := by simp
  have Y3 := Lib.hid y3
  have b11 : Hid (∀ B, B ≤ P → B ≤ w.heap.size → Below B w ((w9.alloc (.cells #[.string { data := #[] }, .string { data := #[] }, .string { data := #[] }, .int .i32 0, .int .i32 0, .int .i32 0, .int .i32 0, .bool true, .bool false, .bool true] 57)).setCell ⟨P, 0, none⟩ (.pointer (some ⟨w9.heap.size, 0, none⟩)))) := Lib.hid fun B h1 h2 => (((((BB.out B h2).trans (HB7.out.mono (by omega))).alloc (by omega) (.cells #[.int .i32 0, .int .i32 0] 76)).trans (HB9.out.mono (by simp; omega))).alloc (by omega) (.cells #[.string { data := #[] }, .string { data := #[] }, .string { data := #[] }, .int .i32 0, .int .i32 0, .int .i32 0, .int .i32 0, .bool true, .bool false, .bool true] 57)).setCell h1 _
  clear y3 p9 c9 f9 c7 tb
  have E11 := Lib.hid e11
  clear e11
  generalize hw11 : ((w9.alloc (.cells #[.string { data := #[] }, .string { data := #[] }, .string { data := #[] }, .int .i32 0, .int .i32 0, .int .i32 0, .int .i32 0, .bool true, .bool false, .bool true] 57)).setCell ⟨P, 0, none⟩ (.pointer (some ⟨w9.heap.size, 0, none⟩))) = w11 at y0 y1 y2 Y3 hz11 b11 E11 ⊢
  clear hw11
  refine wp_region_held_drew (S := fun w' => w'.heap[w.heap.size]? = some (.cells #[.func (Fn.func 16) #[] #[.pointer (some ⟨K, 0, none⟩), .pointer (some ⟨M, 0, none⟩), .pointer (some ⟨E, 0, none⟩), .pointer (some ⟨S, 0, none⟩)], .func (Fn.func 19) #[] #[.pointer (some ⟨M, 0, none⟩), .pointer (some ⟨E, 0, none⟩)], .func (Fn.func 20) #[] #[.pointer (some ⟨M, 0, none⟩), .pointer (some ⟨S, 0, none⟩)], .func (Fn.func 21) #[] #[.pointer (some ⟨M, 0, none⟩), .pointer (some ⟨S, 0, none⟩)], .int .i8 3, .map none] 37 (0, 0)) ∧ w'.heap[w7.heap.size]? = some (.cells #[.int .i32 0, .int .i32 0] 76 (0, 0)) ∧ w'.heap[P]? = some (.cells #[.pointer (some ⟨w9.heap.size, 0, none⟩)] 22 (0, 0))) (by kernel_rfl) ⟨y0, y1, y2⟩ (fun hHeld => ?_)
  refine wpAnyH_take (i := 0) (oi := { dst := some 94, op := Op.load 37 (Operand.tmp 6), type := 37, pos := "tsconfig_json.go:478", after := #[], guard := none }) (v := ?_) rfl (by kernel_rfl) (by kernel_rfl) (by kernel_rfl) (fun _ _ _ h => h) (Or.inl ⟨by rfl, ?_⟩) (by assumption) ?_
  rotate_left
  · intro wq hSw
    obtain ⟨q1, q2, q3⟩ := hSw
    have a0 : wq.cell? ⟨w.heap.size, 0, none⟩ = some (.func (Fn.func 16) #[] #[.pointer (some ⟨K, 0, none⟩), .pointer (some ⟨M, 0, none⟩), .pointer (some ⟨E, 0, none⟩), .pointer (some ⟨S, 0, none⟩)]) := by simp [World.cell?, q1]
    have a1 : wq.cell? ⟨w.heap.size, 1, none⟩ = some (.func (Fn.func 19) #[] #[.pointer (some ⟨M, 0, none⟩), .pointer (some ⟨E, 0, none⟩)]) := by simp [World.cell?, q1]
    have a2 : wq.cell? ⟨w.heap.size, 2, none⟩ = some (.func (Fn.func 20) #[] #[.pointer (some ⟨M, 0, none⟩), .pointer (some ⟨S, 0, none⟩)]) := by simp [World.cell?, q1]
    have a3 : wq.cell? ⟨w.heap.size, 3, none⟩ = some (.func (Fn.func 21) #[] #[.pointer (some ⟨M, 0, none⟩), .pointer (some ⟨S, 0, none⟩)]) := by simp [World.cell?, q1]
    have a4 : wq.cell? ⟨w.heap.size, 4, none⟩ = some (.int .i8 3) := by simp [World.cell?, q1]
    have a5 : wq.cell? ⟨w.heap.size, 5, none⟩ = some (.map none) := by simp [World.cell?, q1]
    have b0 : wq.cell? ⟨w7.heap.size, 0, none⟩ = some (.int .i32 0) := by simp [World.cell?, q2]
    have b1 : wq.cell? ⟨w7.heap.size, 1, none⟩ = some (.int .i32 0) := by simp [World.cell?, q2]
    have b2 : wq.cell? ⟨P, 0, none⟩ = some (.pointer (some ⟨w9.heap.size, 0, none⟩)) := by simp [World.cell?, q3]
    go_simp
    try (with_reducible rfl)
  try go_frame
  refine wpAnyH_take (i := 1) (oi := { dst := some 95, op := Op.move (Operand.tmp 3), type := 52, pos := "tsconfig_json.go:478", after := #[], guard := none }) (v := ?_) rfl (by kernel_rfl) (by kernel_rfl) (by kernel_rfl) (fun _ _ _ h => h) (Or.inl ⟨by rfl, ?_⟩) (by assumption) ?_
  rotate_left
  · intro wq hSw
    obtain ⟨q1, q2, q3⟩ := hSw
    have a0 : wq.cell? ⟨w.heap.size, 0, none⟩ = some (.func (Fn.func 16) #[] #[.pointer (some ⟨K, 0, none⟩), .pointer (some ⟨M, 0, none⟩), .pointer (some ⟨E, 0, none⟩), .pointer (some ⟨S, 0, none⟩)]) := by simp [World.cell?, q1]
    have a1 : wq.cell? ⟨w.heap.size, 1, none⟩ = some (.func (Fn.func 19) #[] #[.pointer (some ⟨M, 0, none⟩), .pointer (some ⟨E, 0, none⟩)]) := by simp [World.cell?, q1]
    have a2 : wq.cell? ⟨w.heap.size, 2, none⟩ = some (.func (Fn.func 20) #[] #[.pointer (some ⟨M, 0, none⟩), .pointer (some ⟨S, 0, none⟩)]) := by simp [World.cell?, q1]
    have a3 : wq.cell? ⟨w.heap.size, 3, none⟩ = some (.func (Fn.func 21) #[] #[.pointer (some ⟨M, 0, none⟩), .pointer (some ⟨S, 0, none⟩)]) := by simp [World.cell?, q1]
    have a4 : wq.cell? ⟨w.heap.size, 4, none⟩ = some (.int .i8 3) := by simp [World.cell?, q1]
    have a5 : wq.cell? ⟨w.heap.size, 5, none⟩ = some (.map none) := by simp [World.cell?, q1]
    have b0 : wq.cell? ⟨w7.heap.size, 0, none⟩ = some (.int .i32 0) := by simp [World.cell?, q2]
    have b1 : wq.cell? ⟨w7.heap.size, 1, none⟩ = some (.int .i32 0) := by simp [World.cell?, q2]
    have b2 : wq.cell? ⟨P, 0, none⟩ = some (.pointer (some ⟨w9.heap.size, 0, none⟩)) := by simp [World.cell?, q3]
    go_simp
    try (with_reducible rfl)
  try go_frame
  refine wpAnyH_take (i := 2) (oi := { dst := some 96, op := Op.nilCheck (Operand.tmp 95), type := 0, pos := "tsconfig_json.go:478", after := #[{ on := 1, ground := Ground.data }], guard := none }) (v := ?_) rfl (by kernel_rfl) (by kernel_rfl) (by kernel_rfl) (fun _ _ _ h => h) (Or.inl ⟨by rfl, ?_⟩) (by assumption) ?_
  rotate_left
  · intro wq hSw
    obtain ⟨q1, q2, q3⟩ := hSw
    have a0 : wq.cell? ⟨w.heap.size, 0, none⟩ = some (.func (Fn.func 16) #[] #[.pointer (some ⟨K, 0, none⟩), .pointer (some ⟨M, 0, none⟩), .pointer (some ⟨E, 0, none⟩), .pointer (some ⟨S, 0, none⟩)]) := by simp [World.cell?, q1]
    have a1 : wq.cell? ⟨w.heap.size, 1, none⟩ = some (.func (Fn.func 19) #[] #[.pointer (some ⟨M, 0, none⟩), .pointer (some ⟨E, 0, none⟩)]) := by simp [World.cell?, q1]
    have a2 : wq.cell? ⟨w.heap.size, 2, none⟩ = some (.func (Fn.func 20) #[] #[.pointer (some ⟨M, 0, none⟩), .pointer (some ⟨S, 0, none⟩)]) := by simp [World.cell?, q1]
    have a3 : wq.cell? ⟨w.heap.size, 3, none⟩ = some (.func (Fn.func 21) #[] #[.pointer (some ⟨M, 0, none⟩), .pointer (some ⟨S, 0, none⟩)]) := by simp [World.cell?, q1]
    have a4 : wq.cell? ⟨w.heap.size, 4, none⟩ = some (.int .i8 3) := by simp [World.cell?, q1]
    have a5 : wq.cell? ⟨w.heap.size, 5, none⟩ = some (.map none) := by simp [World.cell?, q1]
    have b0 : wq.cell? ⟨w7.heap.size, 0, none⟩ = some (.int .i32 0) := by simp [World.cell?, q2]
    have b1 : wq.cell? ⟨w7.heap.size, 1, none⟩ = some (.int .i32 0) := by simp [World.cell?, q2]
    have b2 : wq.cell? ⟨P, 0, none⟩ = some (.pointer (some ⟨w9.heap.size, 0, none⟩)) := by simp [World.cell?, q3]
    go_simp
    try (with_reducible rfl)
  try go_frame
  refine wpAnyH_take (i := 3) (oi := { dst := some 97, op := Op.load 22 (Operand.tmp 96), type := 22, pos := "tsconfig_json.go:478", after := #[{ on := 2, ground := Ground.data }], guard := none }) (v := ?_) rfl (by kernel_rfl) (by kernel_rfl) (by kernel_rfl) (fun _ _ _ h => h) (Or.inl ⟨by rfl, ?_⟩) (by assumption) ?_
  rotate_left
  · intro wq hSw
    obtain ⟨q1, q2, q3⟩ := hSw
    have a0 : wq.cell? ⟨w.heap.size, 0, none⟩ = some (.func (Fn.func 16) #[] #[.pointer (some ⟨K, 0, none⟩), .pointer (some ⟨M, 0, none⟩), .pointer (some ⟨E, 0, none⟩), .pointer (some ⟨S, 0, none⟩)]) := by simp [World.cell?, q1]
    have a1 : wq.cell? ⟨w.heap.size, 1, none⟩ = some (.func (Fn.func 19) #[] #[.pointer (some ⟨M, 0, none⟩), .pointer (some ⟨E, 0, none⟩)]) := by simp [World.cell?, q1]
    have a2 : wq.cell? ⟨w.heap.size, 2, none⟩ = some (.func (Fn.func 20) #[] #[.pointer (some ⟨M, 0, none⟩), .pointer (some ⟨S, 0, none⟩)]) := by simp [World.cell?, q1]
    have a3 : wq.cell? ⟨w.heap.size, 3, none⟩ = some (.func (Fn.func 21) #[] #[.pointer (some ⟨M, 0, none⟩), .pointer (some ⟨S, 0, none⟩)]) := by simp [World.cell?, q1]
    have a4 : wq.cell? ⟨w.heap.size, 4, none⟩ = some (.int .i8 3) := by simp [World.cell?, q1]
    have a5 : wq.cell? ⟨w.heap.size, 5, none⟩ = some (.map none) := by simp [World.cell?, q1]
    have b0 : wq.cell? ⟨w7.heap.size, 0, none⟩ = some (.int .i32 0) := by simp [World.cell?, q2]
    have b1 : wq.cell? ⟨w7.heap.size, 1, none⟩ = some (.int .i32 0) := by simp [World.cell?, q2]
    have b2 : wq.cell? ⟨P, 0, none⟩ = some (.pointer (some ⟨w9.heap.size, 0, none⟩)) := by simp [World.cell?, q3]
    go_simp
    try (with_reducible rfl)
  try go_frame
  refine wpAnyH_take (i := 4) (oi := { dst := some 98, op := Op.load 76 (Operand.tmp 15), type := 76, pos := "tsconfig_json.go:478", after := #[], guard := none }) (v := ?_) rfl (by kernel_rfl) (by kernel_rfl) (by kernel_rfl) (fun _ _ _ h => h) (Or.inl ⟨by rfl, ?_⟩) (by assumption) ?_
  rotate_left
  · intro wq hSw
    obtain ⟨q1, q2, q3⟩ := hSw
    have a0 : wq.cell? ⟨w.heap.size, 0, none⟩ = some (.func (Fn.func 16) #[] #[.pointer (some ⟨K, 0, none⟩), .pointer (some ⟨M, 0, none⟩), .pointer (some ⟨E, 0, none⟩), .pointer (some ⟨S, 0, none⟩)]) := by simp [World.cell?, q1]
    have a1 : wq.cell? ⟨w.heap.size, 1, none⟩ = some (.func (Fn.func 19) #[] #[.pointer (some ⟨M, 0, none⟩), .pointer (some ⟨E, 0, none⟩)]) := by simp [World.cell?, q1]
    have a2 : wq.cell? ⟨w.heap.size, 2, none⟩ = some (.func (Fn.func 20) #[] #[.pointer (some ⟨M, 0, none⟩), .pointer (some ⟨S, 0, none⟩)]) := by simp [World.cell?, q1]
    have a3 : wq.cell? ⟨w.heap.size, 3, none⟩ = some (.func (Fn.func 21) #[] #[.pointer (some ⟨M, 0, none⟩), .pointer (some ⟨S, 0, none⟩)]) := by simp [World.cell?, q1]
    have a4 : wq.cell? ⟨w.heap.size, 4, none⟩ = some (.int .i8 3) := by simp [World.cell?, q1]
    have a5 : wq.cell? ⟨w.heap.size, 5, none⟩ = some (.map none) := by simp [World.cell?, q1]
    have b0 : wq.cell? ⟨w7.heap.size, 0, none⟩ = some (.int .i32 0) := by simp [World.cell?, q2]
    have b1 : wq.cell? ⟨w7.heap.size, 1, none⟩ = some (.int .i32 0) := by simp [World.cell?, q2]
    have b2 : wq.cell? ⟨P, 0, none⟩ = some (.pointer (some ⟨w9.heap.size, 0, none⟩)) := by simp [World.cell?, q3]
    go_simp
    try (with_reducible rfl)
  try go_frame
  refine wpAnyH_take (i := 5) (oi := { dst := some 99, op := Op.move (Operand.tmp 0), type := 9, pos := "tsconfig_json.go:478", after := #[], guard := none }) (v := ?_) rfl (by kernel_rfl) (by kernel_rfl) (by kernel_rfl) (fun _ _ _ h => h) (Or.inl ⟨by rfl, ?_⟩) (by assumption) ?_
  rotate_left
  · intro wq hSw
    obtain ⟨q1, q2, q3⟩ := hSw
    have a0 : wq.cell? ⟨w.heap.size, 0, none⟩ = some (.func (Fn.func 16) #[] #[.pointer (some ⟨K, 0, none⟩), .pointer (some ⟨M, 0, none⟩), .pointer (some ⟨E, 0, none⟩), .pointer (some ⟨S, 0, none⟩)]) := by simp [World.cell?, q1]
    have a1 : wq.cell? ⟨w.heap.size, 1, none⟩ = some (.func (Fn.func 19) #[] #[.pointer (some ⟨M, 0, none⟩), .pointer (some ⟨E, 0, none⟩)]) := by simp [World.cell?, q1]
    have a2 : wq.cell? ⟨w.heap.size, 2, none⟩ = some (.func (Fn.func 20) #[] #[.pointer (some ⟨M, 0, none⟩), .pointer (some ⟨S, 0, none⟩)]) := by simp [World.cell?, q1]
    have a3 : wq.cell? ⟨w.heap.size, 3, none⟩ = some (.func (Fn.func 21) #[] #[.pointer (some ⟨M, 0, none⟩), .pointer (some ⟨S, 0, none⟩)]) := by simp [World.cell?, q1]
    have a4 : wq.cell? ⟨w.heap.size, 4, none⟩ = some (.int .i8 3) := by simp [World.cell?, q1]
    have a5 : wq.cell? ⟨w.heap.size, 5, none⟩ = some (.map none) := by simp [World.cell?, q1]
    have b0 : wq.cell? ⟨w7.heap.size, 0, none⟩ = some (.int .i32 0) := by simp [World.cell?, q2]
    have b1 : wq.cell? ⟨w7.heap.size, 1, none⟩ = some (.int .i32 0) := by simp [World.cell?, q2]
    have b2 : wq.cell? ⟨P, 0, none⟩ = some (.pointer (some ⟨w9.heap.size, 0, none⟩)) := by simp [World.cell?, q3]
    go_simp
    try (with_reducible rfl)
  try go_frame
  refine wpAnyH_take (i := 6) (oi := { dst := some 100, op := Op.makeInterface 9 (Operand.tmp 99), type := 20, pos := "tsconfig_json.go:478", after := #[{ on := 5, ground := Ground.data }], guard := none }) (v := ?_) rfl (by kernel_rfl) (by kernel_rfl) (by kernel_rfl) (fun _ _ _ h => h) (Or.inl ⟨by rfl, ?_⟩) (by assumption) ?_
  rotate_left
  · intro wq hSw
    obtain ⟨q1, q2, q3⟩ := hSw
    have a0 : wq.cell? ⟨w.heap.size, 0, none⟩ = some (.func (Fn.func 16) #[] #[.pointer (some ⟨K, 0, none⟩), .pointer (some ⟨M, 0, none⟩), .pointer (some ⟨E, 0, none⟩), .pointer (some ⟨S, 0, none⟩)]) := by simp [World.cell?, q1]
    have a1 : wq.cell? ⟨w.heap.size, 1, none⟩ = some (.func (Fn.func 19) #[] #[.pointer (some ⟨M, 0, none⟩), .pointer (some ⟨E, 0, none⟩)]) := by simp [World.cell?, q1]
    have a2 : wq.cell? ⟨w.heap.size, 2, none⟩ = some (.func (Fn.func 20) #[] #[.pointer (some ⟨M, 0, none⟩), .pointer (some ⟨S, 0, none⟩)]) := by simp [World.cell?, q1]
    have a3 : wq.cell? ⟨w.heap.size, 3, none⟩ = some (.func (Fn.func 21) #[] #[.pointer (some ⟨M, 0, none⟩), .pointer (some ⟨S, 0, none⟩)]) := by simp [World.cell?, q1]
    have a4 : wq.cell? ⟨w.heap.size, 4, none⟩ = some (.int .i8 3) := by simp [World.cell?, q1]
    have a5 : wq.cell? ⟨w.heap.size, 5, none⟩ = some (.map none) := by simp [World.cell?, q1]
    have b0 : wq.cell? ⟨w7.heap.size, 0, none⟩ = some (.int .i32 0) := by simp [World.cell?, q2]
    have b1 : wq.cell? ⟨w7.heap.size, 1, none⟩ = some (.int .i32 0) := by simp [World.cell?, q2]
    have b2 : wq.cell? ⟨P, 0, none⟩ = some (.pointer (some ⟨w9.heap.size, 0, none⟩)) := by simp [World.cell?, q3]
    go_simp
    try (with_reducible rfl)
  try go_frame
  refine wpAnyH_ready (rs := [7]) (by kernel_rfl) (by simp) ?_
  refine AllReadyH.cons rfl (fun K' hK => ?_) AllReadyH.nil
  have z0 : ∀ o, ((w11.alloc o).drew).heap[w.heap.size]? = some (.cells #[.func (Fn.func 16) #[] #[.pointer (some ⟨K, 0, none⟩), .pointer (some ⟨M, 0, none⟩), .pointer (some ⟨E, 0, none⟩), .pointer (some ⟨S, 0, none⟩)], .func (Fn.func 19) #[] #[.pointer (some ⟨M, 0, none⟩), .pointer (some ⟨E, 0, none⟩)], .func (Fn.func 20) #[] #[.pointer (some ⟨M, 0, none⟩), .pointer (some ⟨S, 0, none⟩)], .func (Fn.func 21) #[] #[.pointer (some ⟨M, 0, none⟩), .pointer (some ⟨S, 0, none⟩)], .int .i8 3, .map none] 37 (0, 0)) := fun o => (blk_alloc_lt w11 o _ (by omega)).trans y0
  have z1 : ∀ o, ((w11.alloc o).drew).heap[w7.heap.size]? = some (.cells #[.int .i32 0, .int .i32 0] 76 (0, 0)) := fun o => (blk_alloc_lt w11 o _ (by omega)).trans y1
  have z2 : ∀ o, ((w11.alloc o).drew).heap[P]? = some (.cells #[.pointer (some ⟨w9.heap.size, 0, none⟩)] 22 (0, 0)) := fun o => (blk_alloc_lt w11 o _ (by omega)).trans y2
  go_simp
  refine hK.out _ _ ⟨z0 _, z1 _, z2 _⟩ (fun hHeld => ?_)
  clear hK K'
  try go_frame
  refine wpAnyH_ready (rs := [8]) (by kernel_rfl) (by simp) ?_
  refine AllReadyH.cons rfl (fun K' hK => ?_) AllReadyH.nil
  go_simp
  refine hK.out _ _ ⟨z0 _, z1 _, z2 _⟩ (fun hHeld => ?_)
  clear hK K'
  try go_frame
  refine wpAnyH_ready (rs := [9]) (by kernel_rfl) (by simp) ?_
  refine AllReadyH.cons rfl (fun K' hK => ?_) AllReadyH.nil
  go_simp
  have e9 : ∀ q, q ≠ P → q < wb.heap.size → (w11.alloc (.cells #[.iface 9 (.string s)] 20)).drew.drew.heap[q]? = wb.heap[q]? := fun q hq1 hq2 => (blk_alloc_lt w11 _ q (by omega)).trans (E11.out q hq1 hq2)
  refine (addid24 K M E S w9.heap.size 66 _ _ (lg_block HLB.out (fun q hq => e9 q (by have := hd; rcases hq with rfl | rfl | rfl | rfl <;> omega) (by rcases hq with rfl | rfl | rfl | rfl <;> omega))) (Y3.out.of_block (blk_alloc_lt w11 _ _ (by omega))) (by decide) (by decide) hd.1 hd.2.1 hd.2.2.1 hd.2.2.2.1 hd.2.2.2.2.1 (by omega) (by omega) (by omega) (by omega)).mono ?_
  rintro e w12 ⟨rfl, hg, far, bel⟩
  go_simp
  refine hK.out _ _ ⟨(far _ (by omega) (by omega) (by omega) (by simp; omega)).trans (z0 _), (far _ (by omega) (by omega) (by omega) (by simp; omega)).trans (z1 _), (far _ (by have := hd; omega) (by have := hd; omega) (by omega) (by simp; omega)).trans (z2 _)⟩ (fun hHeld => ?_)
  clear hK K'
  try go_frame
  have R12 : Hid (P12 false K M E S P w (.returned (.bool false)) w12) := Lib.hid ⟨.inr ⟨rfl, rfl, hg⟩, ⟨_, (far P (by have := hd; omega) (by have := hd; omega) (by omega) (by simp; omega)).trans (z2 _)⟩, fun q g1 g2 g3 g4 => (far q g1 g2 (by omega) (by simp; omega)).trans ((e9 q g3 (by omega)).trans (FB.out q g4)), fun B h1 h2 h3 h4 => (((b11.out B h3 h4).alloc (by omega) _).drew.drew).trans (bel B h1 h2 (by omega) (by simp; omega))⟩
  clear hg far bel y0 y1 y2 z0 z1 z2 e9
  have hv := HF.out
  subst hv
  refine wpAnyH_done (by kernel_rfl) ?_ _
  go_wp2
  go_ret
  exact R12.out
end Go.Proofs.YtlhdihdlkejjdaaFmt.DfG
