/- StringToUTF16 by its contract: the units of the text. Condition: its length. -/
import Derived.Test.YtpglhdmcbbghpaaFmtUnb
import Derived.Lib.OthersKept
import Derived.Lib.Strings
import Derived.Laws.Tables
import Derived.Laws.BitsAllLaws
import Derived.IntWalk
namespace Go.Proofs.YtpglhdmcbbghpaaFmt.Utf
open Go.RowKit Go.Deep Go.Proofs.YtpglhdmcbbghpaaFmt.Base Go.Proofs.YtpglhdmcbbghpaaFmt.Sls Go.Proofs.YtpglhdmcbbghpaaFmt.Byw Go.Proofs.YtpglhdmcbbghpaaFmt.Unb
set_option linter.unusedVariables false
/-- The units of a code point. -/
def cu (r : Nat) : List Nat := if r ≤ 65535 then [r] else [55296 + (r - 65536) / 1024 % 1024, 56320 + (r - 65536) % 1024]
def uo (s : ByteArray) : Nat → Nat → List Nat
  | 0, _ => []
  | f + 1, p => if p < s.size then cu (Utf8.decode s p).1 ++ uo s f (p + (Utf8.decode s p).2) else []
theorem dec_w (s : ByteArray) (p : Nat) (h : p < s.size) : 1 ≤ (Utf8.decode s p).2 ∧ p + (Utf8.decode s p).2 ≤ s.size ∧ (Utf8.decode s p).1 ≤ 1114111 := by
  simp only [Utf8.decode]
  repeat' split
  all_goals simp_all [Utf8.runeError, Utf8.valid]
  all_goals omega
theorem uo_fuel (s : ByteArray) : ∀ (f g p : Nat), s.size - p ≤ f → s.size - p ≤ g → uo s f p = uo s g p
  | 0, 0, p, _, _ => rfl
  | 0, g + 1, p, h, _ => by
    show [] = (if p < s.size then _ else _)
    rw [if_neg (by omega)]
  | f + 1, 0, p, _, h => by
    show (if p < s.size then _ else _) = []
    rw [if_neg (by omega)]
  | f + 1, g + 1, p, hf, hg => by
    show (if p < s.size then _ else _) = (if p < s.size then _ else _)
    by_cases h : p < s.size
    · rw [if_pos h, if_pos h]
      have := dec_w s p h
      rw [uo_fuel s f g _ (by omega) (by omega)]
    · rw [if_neg h, if_neg h]
def urest (s : ByteArray) (p : Nat) : List Nat := uo s (s.size - p) p
def units (s : ByteArray) : List Nat := urest s 0
theorem urest_step (s : ByteArray) (p : Nat) (h : p < s.size) : urest s p = cu (Utf8.decode s p).1 ++ urest s (p + (Utf8.decode s p).2) := by
  unfold urest
  have h1 := dec_w s p h
  rw [uo_fuel s (s.size - p) ((s.size - (p + (Utf8.decode s p).2)) + (s.size - p) + 1) p (by omega) (by omega)]
  show (if p < s.size then _ else _) = _
  rw [if_pos h, uo_fuel s _ (s.size - (p + (Utf8.decode s p).2)) _ (by omega) (Nat.le_refl _)]
theorem urest_end (s : ByteArray) (p : Nat) (h : s.size ≤ p) : urest s p = [] := by
  unfold urest
  rw [Nat.sub_eq_zero_of_le h]
  rfl
theorem cu_len (r : Nat) : (cu r).length ≤ 2 := by unfold cu; split <;> simp
theorem uo_len (s : ByteArray) : ∀ (f p : Nat), (uo s f p).length ≤ 2 * f
  | 0, p => Nat.zero_le _
  | f + 1, p => by
    show (if p < s.size then _ else _ : List Nat).length ≤ _
    split
    · rw [List.length_append]
      have := cu_len (Utf8.decode s p).1
      have := uo_len s f (p + (Utf8.decode s p).2)
      omega
    · exact Nat.zero_le _
theorem infoU : (Tryf.prog.info? 89).map (fun i => (i.zero, i.size, i.bytes)) = some (some (.int .u16 0), 1, 2) := by kernel_rfl
theorem uv_app (a b : List Nat) : uv (a ++ b) = uv a ++ uv b := by simp [uv]
theorem uv_one (l : List Nat) : ∀ u ∈ uv l, u.oneCell' = true := by
  intro u hu
  simp only [uv, List.mem_map] at hu
  obtain ⟨c, _, rfl⟩ := hu
  rfl
theorem rd_cells16 (w : World) (xs : List Value) : Rd (w.alloc (.cells xs.toArray 89)) (w.heap.size + 1) (some ⟨w.heap.size, 0, none⟩) xs := rd_cells w 89 xs
/-- Under way. -/
structure Ut (w wr : World) (b : Nat) (s : ByteArray) (p : Nat) (A : Option Addr) (n c : Nat) (o : List Nat) : Prop where
  own : Own wr w.heap.size 89 (.slice A n c) (uv o)
  it : wr.heap[b]? = some (.stringIter s p)
  bel : Below w.heap.size w wr
  ne : (Value.slice A n c).ownBlock ≠ some b
  ge : w.heap.size ≤ b
  out : o ++ urest s p = units s
  le : p ≤ s.size
theorem own_it {w : World} {base e n c K p : Nat} {A : Option Addr} {xs : List Value} {s : ByteArray} (h : Own w base e (.slice A n c) xs) (hk : w.heap[K]? = some (.stringIter s p)) : (Value.slice A n c).ownBlock ≠ some K := by
  rcases h.2 with ⟨h0, _⟩ | ⟨g, cap, cur, h0, _, hh, _⟩
  · rw [h0]; simp [Value.ownBlock]
  · rw [h0]
    intro he
    have : g = K := by simpa [Value.ownBlock] using he
    subst this
    rw [hk] at hh
    cases hh
theorem grown_it (w : World) (K : Nat) (s : ByteArray) (p : Nat) : w.grownBy (w.iterAt K s p) (some K) :=
  ⟨rfl, rfl, rfl, by rw [Lib.iterAt_size]; exact Nat.le_refl _, fun i _ hne => Lib.iterAt_other w K i s p (fun e => hne (by rw [e]))⟩
theorem Ut.own1 {w wr : World} {b p n c : Nat} {s : ByteArray} {A : Option Addr} {o : List Nat} (h : Ut w wr b s p A n c o) (p' : Nat) : Own (wr.iterAt b s p') w.heap.size 89 (.slice A n c) (uv o) :=
  h.own.to (grown_it wr b s p') (.inr (own_it h.own h.it))
theorem Ut.step {w wr w1 : World} {b p n c : Nat} {s : ByteArray} {A : Option Addr} {o K : List Nat} {v1 : Value} {ob : Obj} (h : Ut w wr b s p A n c o) (hp : p < s.size) (hK : cu (Utf8.decode s p).1 = K)
    (hg : ((wr.iterAt b s (p + (Utf8.decode s p).2)).alloc ob).grownBy w1 (Value.slice A n c).ownBlock) (o1 : Own w1 w.heap.size 89 v1 (uv o ++ uv K)) (hat : v1.ownBlock = (Value.slice A n c).ownBlock ∨ v1.ownBlock = some ((wr.iterAt b s (p + (Utf8.decode s p).2)).alloc ob).heap.size) :
    ∃ A' n' c', v1 = .slice A' n' c' ∧ Ut w w1 b s (p + (Utf8.decode s p).2) A' n' c' (o ++ K) := by
  obtain ⟨p', hp'⟩ : ∃ p', p' = p + (Utf8.decode s p).2 := ⟨_, rfl⟩
  have hd := dec_w s p hp
  have hu := urest_step s p hp
  rw [hK, ← hp'] at hu
  rw [← hp'] at hg hat hd ⊢
  have hbl : b < wr.heap.size := (Array.getElem?_eq_some_iff.1 h.it).1
  have hit : (wr.iterAt b s p').heap[b]? = some (.stringIter s p') := Lib.iterAt_heap wr b s p p' h.it
  have hz : (wr.iterAt b s p').heap.size = wr.heap.size := Lib.iterAt_size _ _ _ _
  have hgz := hg.size
  have hoz := h.own.lt
  have hit1 : w1.heap[b]? = some (.stringIter s p') := (hg.block b (by simp; omega) (fun e => h.ne e.symm)).trans ((heap_alloc_old _ ob (by omega)).trans hit)
  have hv : ∃ A' n' c', v1 = .slice A' n' c' := by
    rcases o1.2 with ⟨h0, _⟩ | ⟨g, cap, cur, h0, _⟩
    · exact ⟨_, _, _, h0⟩
    · exact ⟨_, _, _, h0⟩
  obtain ⟨A', n', c', rfl⟩ := hv
  refine ⟨A', n', c', rfl, by rw [uv_app]; exact o1, hit1, ?_, ?_, h.ge, by rw [List.append_assoc, ← hu]; exact h.out, by omega⟩
  · have hb := h.bel
    refine ⟨hg.os.trans hb.os, hg.tape.trans hb.tape, hg.output.trans hb.output, by have := hb.size; simp at hgz; omega, fun i hi => ?_⟩
    refine (hg.block i (by have := hb.size; simp; omega) (fun e => ?_)).trans ((heap_alloc_old _ ob (by have := hb.size; omega)).trans ((Lib.iterAt_other wr b i s p' (by have := h.ge; omega)).trans (hb.block i hi)))
    have := (hoz i e.symm).1
    omega
  · intro e
    rcases hat with h1 | h1
    · rw [h1] at e; exact h.ne e
    · rw [h1] at e
      injection e with e
      simp at e
      omega
theorem units16 (r : Nat) (h : r ≤ 1114111) (h2 : ¬ r ≤ 65535) : ∃ d : Nat, (r : Int) + -65536 = d ∧ (d : Int) ≤ 1048575 ∧ cu r = [55296 + d / 1024 % 1024, 56320 + d % 1024] :=
  ⟨r - 65536, by omega, by omega, by unfold cu; rw [if_neg h2]⟩
theorem and1023 (a : Nat) (ha : a < 2147483648) : bits .and .i32 (a : Int) 1023 = ((a % 1024 : Nat) : Int) := by
  have e : (BitVec.ofInt 32 1023).toNat = 1023 := rfl
  show IntKind.i32.wrap ((BitVec.ofInt 32 (a : Int) &&& BitVec.ofInt 32 1023).toNat : Int) = _
  rw [BitVec.toNat_and, ofInt_u32 a (by omega), e, nat_mask10, IntKind.wrap_i32]
  omega
theorem unitE (x K : Int) (a k : Nat) (hx : x = a) (ha : a < 2147483648) (hk : k ≤ 60000) (hK : K = k) : IntKind.u16.wrap (wrap32 (K + bits .and .i32 x 1023)) = ((k + a % 1024 : Nat) : Int) := by
  rw [hx, and1023 a ha, IntKind.wrap_u16]
  unfold wrap32
  omega
def Jn (w : World) (b : Nat) (s : ByteArray) (v : Value) (wr : World) : Prop := ∃ (p : Nat) (A : Option Addr) (n c : Nat) (o : List Nat), v = .slice A n c ∧ Hid (Ut w wr b s p A n c o)
theorem Jn.mk' {w wr : World} {b p : Nat} {s : ByteArray} {v : Value} {o : List Nat} {A : Option Addr} {n c : Nat} (e : v = .slice A n c) (h : Ut w wr b s p A n c o) : Jn w b s v wr := ⟨p, A, n, c, o, e, Lib.hid h⟩
def Ud (s : ByteArray) (w : World) (e : Ending) (w' : World) : Prop := ∃ A n c, e = .returned (.slice A n c) ∧ n = (units s).length ∧ Own w' w.heap.size 89 (.slice A n c) (uv (units s)) ∧ Below w.heap.size w w'
theorem Ut.done {w wr : World} {b p : Nat} {s : ByteArray} {o : List Nat} {A : Option Addr} {n c : Nat} (h : Ut w wr b s p A n c o) (hp : ¬ p < s.size) (w9 : World) (hw : w9 = wr.iterAt b s p ∨ w9 = wr) : Ud s w (.returned (.slice A n c)) w9 := by
  have ho : o = units s := by have := h.out; rw [urest_end s p (by omega), List.append_nil] at this; exact this
  have hn : n = (units s).length := by
    subst ho
    rcases h.own.2 with ⟨h0, h1⟩ | ⟨g, cap, cur, h0, _⟩
    · injection h0 with _ h2 _; rw [uv_len] at h1; omega
    · injection h0 with _ h2 _; rw [uv_len] at h2; omega
  rcases hw with rfl | rfl
  · refine ⟨A, n, c, rfl, hn, ho ▸ h.own1 p, ?_⟩
    have hb := h.bel
    exact ⟨hb.os, hb.tape, hb.output, by rw [Lib.iterAt_size]; exact hb.size, fun i hi => (Lib.iterAt_other wr b i s p (by have := h.ge; omega)).trans (hb.block i hi)⟩
  · exact ⟨A, n, c, rfl, hn, ho ▸ h.own, h.bel⟩
theorem Ut.len {w wr : World} {b p : Nat} {s : ByteArray} {o : List Nat} {A : Option Addr} {n c : Nat} (h : Ut w wr b s p A n c o) : (uv o).length ≤ 2 * s.size := by
  have h1 : (units s).length ≤ 2 * s.size := uo_len s _ 0
  rw [← h.out, List.length_append] at h1
  rw [uv_len]
  omega
set_option maxRecDepth 20000 in
set_option maxHeartbeats 2000000 in
theorem utf22 (s : ByteArray) (w : World) (hs : s.size ≤ 1048576) : Calls Tryf.prog 22 #[.string s] w (Ud s w) := by
  obtain ⟨i0, hi, hz0, hz1, hz2⟩ := info_parts infoU
  obtain ⟨w0, hmk, hown, hgr⟩ := run_make_own (P := Tryf.prog) w w.heap.size 99 89 i0 (.int .u16 0) 1 Tryf.underlying99 hi hz0 hz1 .i64 .i64 s.size (by rw [hz2]; omega) (by unfold maxLen; omega) (Nat.le_refl _)
  have hb0 : Below w.heap.size w w0 := ⟨hgr.os, hgr.tape, hgr.output, hgr.size, fun i hi => hgr.block i hi (by simp)⟩
  have z0 := hb0.size
  have lt0 := (World.ownsRow.lt hown w.heap.size rfl)
  have S0 : Hid (Ut w (w0.iter s 0) w0.heap.size s 0 (some ⟨w.heap.size, 0, none⟩) 0 s.size []) := Lib.hid ⟨hown.alloc _, World.iter_heap w0 s 0, hb0.alloc hb0.size _, by (intro e; have : w.heap.size = w0.heap.size := by simpa [Value.ownBlock] using e); have := lt0.2; omega, by omega, rfl, Nat.zero_le _⟩
  clear hi hz0 hz1 hz2 hown hgr lt0
  go_enter Tryf.func22, Tryf.ntmps22
  go_wp2_with (fail)
  go_loopw [3] (fun v wr => Jn w w0.heap.size s v wr) (fun _ wr => s.size - wr.iterPos w0.heap.size)
  case atStart => exact Jn.mk' rfl S0.out
  case round =>
    clear S0 hmk hb0
    obtain ⟨p, A, n, c, o, rfl, HH⟩ := hrel
    have hit := HH.out.it
    have hpos : wr.iterPos w0.heap.size = p := by unfold World.iterPos; rw [hit]
    have HPOS := Lib.hid hpos
    clear hpos
    by_cases hlt : p < s.size
    · have hnx := fun ty => Lib.run_next_any_at (P := Tryf.prog) wr w0.heap.size s p ty hit hlt
      obtain ⟨hw1, hw2, hw3⟩ := dec_w s p hlt
      have hml := HH.out.len
      have O1 := Lib.hid (HH.out.own1 (p + (Utf8.decode s p).2))
      have hzz : w.heap.size ≤ (wr.iterAt w0.heap.size s (p + (Utf8.decode s p).2)).heap.size := by rw [Lib.iterAt_size]; exact HH.out.bel.size
      have NX : Hid (∀ (K : List Nat) (v1 : Value) (w1 : World) (ob : Obj), cu (Utf8.decode s p).1 = K → ((wr.iterAt w0.heap.size s (p + (Utf8.decode s p).2)).alloc ob).grownBy w1 (Value.slice A n c).ownBlock → Own w1 w.heap.size 89 v1 (uv o ++ uv K) → (v1.ownBlock = (Value.slice A n c).ownBlock ∨ v1.ownBlock = some ((wr.iterAt w0.heap.size s (p + (Utf8.decode s p).2)).alloc ob).heap.size) → Jn w w0.heap.size s v1 w1 ∧ w1.iterPos w0.heap.size = p + (Utf8.decode s p).2) := Lib.hid fun K v1 w1 ob hK h1 h2 h3 => by
        obtain ⟨A', n', c', e, h4⟩ := HH.out.step hlt hK h1 h2 h3
        exact ⟨Jn.mk' e h4, by unfold World.iterPos; rw [h4.it]⟩
      have MS : Hid (s.size - (p + (Utf8.decode s p).2) < s.size - p) := Lib.hid (by omega)
      obtain ⟨W1, hW1⟩ : ∃ W1, wr.iterAt w0.heap.size s (p + (Utf8.decode s p).2) = W1 := ⟨_, rfl⟩
      rw [hW1] at hnx O1 hzz NX
      obtain ⟨p', hp'⟩ : ∃ p', p + (Utf8.decode s p).2 = p' := ⟨_, rfl⟩
      rw [hp'] at NX MS
      obtain ⟨q, hq⟩ : ∃ q, (Utf8.decode s p).1 = q := ⟨_, rfl⟩
      rw [hq] at hnx NX hw3
      clear hW1 hq hit hp' hw1 hw2
      have HLT := Lib.hid hlt
      by_cases hbig : q ≤ 65535
      · have hb1 : (q : Int) ≤ 65535 := by omega
        have hu : Hid (cu q = [q]) := Lib.hid (by unfold cu; rw [if_pos hbig])
        clear hbig
        go_wp2_with (at_builtin; refine append_any _ rfl (.tmp 16) (.tmp 19) 99 89 rfl w.heap.size Tryf.underlying99 (.int .u16 0) 2 rfl (by omega) infoU (.slice A n c) (uv o) rfl (O1.out.alloc _) (W1.heap.size + 1) (some ⟨W1.heap.size, 0, none⟩) 1 1 (uv [q]) rfl rfl (rd_cells16 _ _) (uv_one _) (by omega) (le_alloc hzz _) ?_; intro v1 w1 o1 g1 at1; obtain ⟨J1, M1⟩ := NX.out _ v1 w1 _ hu.out g1 o1 at1; have JN := Lib.hid J1; have MN := Lib.hid M1; clear J1 M1 o1 g1 at1)
        go_roundw
        case rel => exact JN.out
        case measure => rw [MN.out, HPOS.out]; exact MS.out
      · obtain ⟨d, hqd, hd, hu⟩ := units16 q hw3 hbig
        have hb1 : ¬ (q : Int) ≤ 65535 := by omega
        have hb2 : (q : Int) ≤ 1114111 := by omega
        have HE : Hid (uv (cu q) = [Value.int .u16 (IntKind.u16.wrap (wrap32 (55296 + bits .and .i32 (((q : Int) - 65536) / 1024) 1023))), .int .u16 (IntKind.u16.wrap (wrap32 (56320 + bits .and .i32 ((q : Int) - 65536) 1023)))]) := Lib.hid (by
          rw [hu, unitE (((q : Int) - 65536) / 1024) 55296 (d / 1024) 55296 (by omega) (by omega) (by omega) rfl, unitE ((q : Int) - 65536) 56320 d 56320 (by omega) (by omega) (by omega) rfl]
          rfl)
        clear hbig hu hqd hd
        go_wp2_with (at_builtin; refine append_any _ rfl (.tmp 23) (.tmp 33) 99 89 rfl w.heap.size Tryf.underlying99 (.int .u16 0) 2 rfl (by omega) infoU (.slice A n c) (uv o) rfl (O1.out.alloc _) (W1.heap.size + 1) (some ⟨W1.heap.size, 0, none⟩) 2 2 (uv (cu q)) (by rw [HE.out]; rfl) rfl (by rw [HE.out]; exact rd_cells16 _ _) (uv_one _) (by omega) (le_alloc hzz _) ?_; intro v1 w1 o1 g1 at1; obtain ⟨J1, M1⟩ := NX.out _ v1 w1 _ rfl g1 o1 at1; have JN := Lib.hid J1; have MN := Lib.hid M1; clear J1 M1 o1 g1 at1)
        go_roundw
        case rel => exact JN.out
        case measure => rw [MN.out, HPOS.out]; exact MS.out
    · have hnx := fun ty => Lib.run_next_end_at (P := Tryf.prog) wr w0.heap.size s p ty hit hlt
      have DN := Lib.hid fun w9 hw => HH.out.done hlt w9 hw
      go_wp2_with (fail)
      go_ret
      exact DN.out _ (.inr rfl)
end Go.Proofs.YtpglhdmcbbghpaaFmt.Utf
