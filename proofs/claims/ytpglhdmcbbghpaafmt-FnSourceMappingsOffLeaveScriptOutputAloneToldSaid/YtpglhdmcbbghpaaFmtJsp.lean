/- What the law calls, by contracts. Conditions: lengths. -/
import Derived.Test.YtpglhdmcbbghpaaFmtPqt
import Derived.Test.YtpglhdmcbbghpaaFmtUtf
namespace Go.Proofs.YtpglhdmcbbghpaaFmt.Jsp
open Go.RowKit Go.Deep Go.Proofs.YtpglhdmcbbghpaaFmt.Base Go.Proofs.YtpglhdmcbbghpaaFmt.Sls Go.Proofs.YtpglhdmcbbghpaaFmt.Byw Go.Proofs.YtpglhdmcbbghpaaFmt.Prq Go.Proofs.YtpglhdmcbbghpaaFmt.Esq Go.Proofs.YtpglhdmcbbghpaaFmt.Unb Go.Proofs.YtpglhdmcbbghpaaFmt.Unq Go.Proofs.YtpglhdmcbbghpaaFmt.Pqt Go.Proofs.YtpglhdmcbbghpaaFmt.Utf
set_option linter.unusedVariables false
/-! ### no lone surrogate -/
theorem gd_app (p t : List Nat) (j : Nat) : (p ++ t).getD (p.length + j) 0 = t.getD j 0 := by
  simp [List.getD, List.getElem?_append_right]
theorem pair_app (p t : List Nat) (j : Nat) : pair (p ++ t) (p.length + j) = pair t j := by
  unfold pair
  rw [gd_app, Nat.add_assoc, gd_app, List.length_append]
  congr 1
  simp
theorem wf_app (p t : List Nat) (hp : ∀ k, k < p.length → (p ++ t).getD k 0 ≤ 65535 ∧ (55296 ≤ (p ++ t).getD k 0 → (p ++ t).getD k 0 ≤ 56319 → pair (p ++ t) k = true) ∧ (56320 ≤ (p ++ t).getD k 0 → (p ++ t).getD k 0 ≤ 57343 → 0 < k ∧ 55296 ≤ (p ++ t).getD (k - 1) 0 ∧ (p ++ t).getD (k - 1) 0 ≤ 56319)) (ht : Wf t) : Wf (p ++ t) := by
  intro k hk
  by_cases h : k < p.length
  · exact hp k h
  · obtain ⟨j, rfl⟩ : ∃ j, k = p.length + j := ⟨k - p.length, by omega⟩
    rw [List.length_append] at hk
    obtain ⟨h1, h2, h3⟩ := ht j (by omega)
    rw [gd_app, pair_app]
    refine ⟨h1, h2, fun a b => ?_⟩
    obtain ⟨h4, h5⟩ := h3 a b
    rw [Nat.add_sub_assoc h4, gd_app]
    exact ⟨by omega, h5⟩
theorem wf_one (r : Nat) (t : List Nat) (hr : r ≤ 65535) (hs : ¬ (55296 ≤ r ∧ r ≤ 57343)) (ht : Wf t) : Wf ([r] ++ t) := by
  refine wf_app [r] t (fun k hk => ?_) ht
  obtain rfl : k = 0 := by have : k < 1 := hk; omega
  have e : ([r] ++ t).getD 0 0 = r := rfl
  rw [e]
  exact ⟨hr, fun a b => absurd ⟨a, by omega⟩ hs, fun a b => absurd ⟨by omega, b⟩ hs⟩
theorem wf_two (h d : Nat) (t : List Nat) (h1 : 55296 ≤ h) (h2 : h ≤ 56319) (d1 : 56320 ≤ d) (d2 : d ≤ 57343) (ht : Wf t) : Wf ([h, d] ++ t) := by
  refine wf_app [h, d] t (fun k hk => ?_) ht
  have e0 : ([h, d] ++ t).getD 0 0 = h := rfl
  have e1 : ([h, d] ++ t).getD 1 0 = d := rfl
  have hl : 0 + 1 < ([h, d] ++ t).length := by rw [List.length_append]; show _ < 2 + _; omega
  have hk2 : k = 0 ∨ k = 1 := by have : k < 2 := hk; omega
  rcases hk2 with rfl | rfl
  · rw [e0]
    refine ⟨by omega, fun a b => ?_, fun a b => by omega⟩
    unfold pair
    rw [e0, e1]
    exact decide_eq_true ⟨h1, h2, hl, d1, d2⟩
  · rw [e1]
    refine ⟨by omega, fun a b => by omega, fun a b => ⟨by omega, ?_⟩⟩
    show 55296 ≤ ([h, d] ++ t).getD 0 0 ∧ ([h, d] ++ t).getD 0 0 ≤ 56319
    rw [e0]
    exact ⟨h1, h2⟩
theorem wf_cu (r : Nat) (t : List Nat) (hr : r ≤ 1114111) (hs : ¬ (55296 ≤ r ∧ r ≤ 57343)) (ht : Wf t) : Wf (cu r ++ t) := by
  by_cases h : r ≤ 65535
  · have e : cu r = [r] := by unfold cu; rw [if_pos h]
    rw [e]
    exact wf_one r t h hs ht
  · have e : cu r = [55296 + (r - 65536) / 1024 % 1024, 56320 + (r - 65536) % 1024] := by unfold cu; rw [if_neg h]
    rw [e]
    exact wf_two _ _ t (by omega) (by omega) (by omega) (by omega) ht
theorem dec_v (s : ByteArray) (p : Nat) : ¬ (55296 ≤ (Utf8.decode s p).1 ∧ (Utf8.decode s p).1 ≤ 57343) := by
  simp only [Utf8.decode]
  repeat' split
  all_goals simp_all [Utf8.runeError, Utf8.valid]
  all_goals omega
theorem wf_uo (s : ByteArray) : ∀ (f p : Nat), Wf (uo s f p)
  | 0, p => fun k hk => by simp [uo] at hk
  | f + 1, p => by
    unfold uo
    split
    · rename_i h
      exact wf_cu _ _ (dec_w s p h).2.2 (dec_v s p) (wf_uo s f _)
    · exact fun k hk => by simp at hk
theorem wf_units (s : ByteArray) : Wf (units s) := wf_uo s _ 0
theorem units_len (s : ByteArray) : (units s).length ≤ 2 * s.size := uo_len s _ 0
/-! ### the printer -/
set_option maxHeartbeats 2000000 in
theorem new7 (A : Option Addr) (n c : Nat) (m : Bool) (w : World) :
    Calls Tryf.prog 7 #[.slice A n c, .bool m, .bool false] w fun e w' => e = .returned (.pointer (some ⟨w.heap.size, 0, none⟩)) ∧ Prn w' w.heap.size m (.slice A n c) ∧ Below w.heap.size w w' := by
  go_enter Tryf.func7, Tryf.ntmps7
  go_wp2_with (fail)
  go_ret
  exact ⟨rfl, ⟨_, heap_alloc_new w _, by kernel_rfl, by kernel_rfl, by kernel_rfl, by kernel_rfl, by kernel_rfl, by kernel_rfl⟩, (Below.refl _ _).alloc (Nat.le_refl _) _⟩
theorem js13 (b : Nat) (m : Bool) (A : Option Addr) (n c : Nat) (w : World) (hp : Prn w b m (.slice A n c)) : Calls Tryf.prog 13 #[.pointer (some ⟨b, 0, none⟩)] w fun e w' => e = .returned (.slice A n c) ∧ w = w' := by
  have c9 := hp.cell
  clear hp
  go_enter Tryf.func13, Tryf.ntmps13
  go_wp2
  go_ret
  exact ⟨rfl, rfl⟩
theorem loc_at {w : World} {v v' : Value} (h : v'.ownBlock = v.ownBlock ∨ v'.ownBlock = some w.heap.size) : Byw.Loc w v v' := by
  intro g hg
  rcases h with h1 | h1
  · rw [h1] at hg; exact .inl hg
  · rw [h1] at hg; injection hg with hg; exact .inr (by omega)
theorem pb16 (b base n c B k d : Nat) (m : Bool) (A C : Option Addr) (l x : List UInt8) (w : World) (hn : l.length + k ≤ 1073741824) (hl : n = l.length) (hk : x.length = k) (hp : Prn w b m (.slice A n c)) (ho : Own w base 5 (.slice A n c) (bv l)) (hb : base ≤ w.heap.size) (hr : Rd w B C (bv x)) :
    Calls Tryf.prog 16 #[.pointer (some ⟨b, 0, none⟩), .slice C k d] w (Pd b m (Value.slice A n c).ownBlock base (l ++ x) w) := by
  have c9 := hp.cell
  have hbw := hp.lt
  obtain ⟨r, hr0⟩ : ∃ r, r = (Value.slice A n c).ownBlock := ⟨_, rfl⟩
  have S0 : Hid (Sl w w r base A n c l) := Lib.hid (by rw [hr0]; exact Sl.start ho hl)
  have HP := Lib.hid hp; have HO := Lib.hid ho; have HR := Lib.hid hr0; have HRD := Lib.hid hr; have HK := Lib.hid hk
  rw [← hr0]
  clear hp ho hr0 hl hr hk
  go_enter Tryf.func16, Tryf.ntmps16
  go_wp2_with (at_builtin; refine append_any _ rfl (.tmp 8) (.tmp 9) 22 5 rfl base Tryf.underlying22 (.int .u8 0) 1 rfl (by omega) infoB (.slice A n c) (bv l) rfl S0.out.own B C k d (bv x) (by rw [bv_len, HK.out]) rfl HRD.out (bv_one x) (by rw [bv_len]; omega) hb ?_; intro v1 w1 o1 g1 at1; obtain ⟨A2, n2, c2, rfl, S2⟩ := S0.out.nextStr (k := x) g1 (by rw [bv_append]; exact o1) (loc_at at1); obtain ⟨hp1, hd⟩ := Pd_of HP.out HO.out HR.out S2; have d9 := hp1.cell; have f9 := hp1.free; have hz1 := hp1.lt; have HD := Lib.hid hd; clear S2 hp1 hd o1 g1 at1)
  go_end0
  exact ⟨rfl, _, _, _, HD.out⟩
theorem print10 (b base n c B k d : Nat) (m : Bool) (A C : Option Addr) (l x : List UInt8) (w : World) (hn : l.length + k ≤ 1073741824) (hl : n = l.length) (hk : x.length = k) (hp : Prn w b m (.slice A n c)) (ho : Own w base 5 (.slice A n c) (bv l)) (hb : base ≤ w.heap.size) (hr : Rd w B C (bv x)) :
    Calls Tryf.prog 10 #[.pointer (some ⟨b, 0, none⟩), .slice C k d] w (Pd b m (Value.slice A n c).ownBlock base (l ++ x) w) := by
  have H := Lib.hid (pb16 b base n c B k d m A C l x w hn hl hk hp ho hb hr)
  obtain ⟨Q, hQ⟩ : ∃ Q, Q = Pd b m (Value.slice A n c).ownBlock base (l ++ x) w := ⟨_, rfl⟩
  have HQ : Hid (∀ e w', Q e w' → e = .returned (.tuple #[]) ∧ Q e w') := Lib.hid (by rw [hQ]; exact fun e w' h => ⟨h.1, h⟩)
  rw [← hQ] at H ⊢
  clear hl hk hp ho hr hQ
  go_enter Tryf.func10, Tryf.ntmps10
  go_wp2_with (go_at_call 16; refine H.out.mono ?_; rintro e w' hq; obtain ⟨rfl, hq⟩ := HQ.out _ _ hq; have HH := Lib.hid hq; clear hq)
  go_end0
  exact HH.out
/-- Behind what only made new blocks. -/
theorem Pd.after {b base n c n' c' : Nat} {m : Bool} {A : Option Addr} {r : Option Nat} {L : List UInt8} {w w1 w2 : World} {e : Ending} (hb : Below w.heap.size w w1) (h : Pd b m r base L w1 e w2) : Pd b m r base L w e w2 := by
  obtain ⟨he, A', n', c', h⟩ := h
  refine ⟨he, A', n', c', h.prn, h.len, h.own, ⟨h.two.os.trans hb.os, h.two.tape.trans hb.tape, h.two.output.trans hb.output, Nat.le_trans hb.size h.two.size, fun k hk h1 h2 => (h.two.block k (Nat.lt_of_lt_of_le hk hb.size) h1 h2).trans (hb.block k hk)⟩, fun g hg => ?_⟩
  rcases h.loc g hg with h1 | h1
  · exact .inl h1
  · exact .inr (Nat.le_trans hb.size h1)
theorem quot17 (b base n c : Nat) (m : Bool) (A : Option Addr) (l : List UInt8) (s : ByteArray) (F : Int) (w : World) (hp : Prn w b m (.slice A n c)) (ho : Own w base 5 (.slice A n c) (bv l)) (hl : n = l.length) (hb : base ≤ w.heap.size) (hs : s.size ≤ 1048576) (hz : l.length + 12 * s.size + 16 ≤ 1073741000) :
    Calls Tryf.prog 17 #[.pointer (some ⟨b, 0, none⟩), .string s, .int .u8 F] w (Pd b m (Value.slice A n c).ownBlock base (l ++ Pqt.quoted m (bits .and .u8 F 1 != 0) (units s)) w) := by
  have U1 := Lib.hid (utf22 s w hs)
  have hul := units_len s
  have H2 := Lib.hid (fun (w1 : World) (B : Option Addr) (n1 c1 : Nat) (hb1 : Below w.heap.size w w1) (hn : n1 = (units s).length) (hU : Own w1 w.heap.size 89 (.slice B n1 c1) (uv (units s))) => (pq21 b base n c n1 c1 w.heap.size m A B l (units s) F w1 (hp.of_block (hb1.block b hp.lt)) (ho.keep hb1) hl (Nat.le_trans hb hb1.size) hU hn (wf_units s) (by omega)).mono (fun e w2 h => (Pd.after (n := 0) (c := 0) (n' := 0) (c' := 0) (A := none) hb1 h : Pd b m (Value.slice A n c).ownBlock base (l ++ Pqt.quoted m (bits .and .u8 F 1 != 0) (units s)) w e w2)))
  obtain ⟨Q, hQ⟩ : ∃ Q, Q = Pd b m (Value.slice A n c).ownBlock base (l ++ Pqt.quoted m (bits .and .u8 F 1 != 0) (units s)) w := ⟨_, rfl⟩
  have HQ : Hid (∀ e w', Q e w' → e = .returned (.tuple #[]) ∧ Q e w') := Lib.hid (by rw [hQ]; exact fun e w' h => ⟨h.1, h⟩)
  rw [← hQ] at H2 ⊢
  clear hp ho hl hb hs hz hQ hul
  go_enter Tryf.func17, Tryf.ntmps17
  go_wp2_with (first | (go_at_call 22; refine U1.out.mono ?_; rintro e w1 ⟨A1, n1, c1, rfl, hn1, o1, b1⟩; have T2 := Lib.hid (H2.out w1 A1 n1 c1 b1 hn1 o1); clear hn1 o1 b1) | (go_at_call 21; refine T2.out.mono ?_; rintro e w' hq; obtain ⟨rfl, hq⟩ := HQ.out _ _ hq; have HH := Lib.hid hq; clear hq))
  go_end0
  exact HH.out
theorem quot11 (b base n c : Nat) (m : Bool) (A : Option Addr) (l : List UInt8) (s : ByteArray) (F : Int) (w : World) (hp : Prn w b m (.slice A n c)) (ho : Own w base 5 (.slice A n c) (bv l)) (hl : n = l.length) (hb : base ≤ w.heap.size) (hs : s.size ≤ 1048576) (hz : l.length + 12 * s.size + 16 ≤ 1073741000) :
    Calls Tryf.prog 11 #[.pointer (some ⟨b, 0, none⟩), .string s, .int .u8 F] w (Pd b m (Value.slice A n c).ownBlock base (l ++ Pqt.quoted m (bits .and .u8 F 1 != 0) (units s)) w) := by
  have H := Lib.hid (quot17 b base n c m A l s F w hp ho hl hb hs hz)
  obtain ⟨Q, hQ⟩ : ∃ Q, Q = Pd b m (Value.slice A n c).ownBlock base (l ++ Pqt.quoted m (bits .and .u8 F 1 != 0) (units s)) w := ⟨_, rfl⟩
  have HQ : Hid (∀ e w', Q e w' → e = .returned (.tuple #[]) ∧ Q e w') := Lib.hid (by rw [hQ]; exact fun e w' h => ⟨h.1, h⟩)
  rw [← hQ] at H ⊢
  clear hp ho hl hb hs hz hQ
  go_enter Tryf.func11, Tryf.ntmps11
  go_wp2_with (go_at_call 17; refine H.out.mono ?_; rintro e w' hq; obtain ⟨rfl, hq⟩ := HQ.out _ _ hq; have HH := Lib.hid hq; clear hq)
  go_end0
  exact HH.out
/-! ### source mappings off: nothing but new blocks -/
def Nb (w : World) (e : Ending) (w' : World) : Prop := e = .returned (.tuple #[]) ∧ Below w.heap.size w w'
theorem asm14 (b : Nat) (m : Bool) (v : Value) (cs : Array Value) (w : World) (hp : Prn w b m v) : Calls Tryf.prog 14 #[.pointer (some ⟨b, 0, none⟩), .agg cs] w (Nb w) := by
  have HP := Lib.hid hp
  have d34 : ∀ o, (w.alloc o).cell? ⟨b, 34, none⟩ = some (.bool false) := fun o => (World.cell?_of_block (heap_alloc_old w o hp.lt)).trans hp.cells.2.2.2.2.2
  clear hp
  go_enter Tryf.func14, Tryf.ntmps14
  go_wp2_with (fail)
  go_end0
  exact ⟨rfl, (Below.refl _ _).alloc (Nat.le_refl _) _⟩
theorem built72 (x : Int) : Tryf.prog.built 72 [(0, .int .i32 x)] = some #[.int .i32 x] := by kernel_rfl
theorem built42 (x y : Int) : Tryf.prog.built 42 [(0, .int .u32 x), (1, .int .u32 y)] = some #[.int .u32 x, .int .u32 y] := by kernel_rfl
theorem asm8 (b : Nat) (m : Bool) (v : Value) (x : Int) (w : World) (hp : Prn w b m v) : Calls Tryf.prog 8 #[.pointer (some ⟨b, 0, none⟩), .int .i32 x] w (Nb w) := by
  have H := Lib.hid (asm14 b m v #[.int .i32 x] w hp)
  clear hp
  go_enter Tryf.func8, Tryf.ntmps8
  go_wp2_with (first | (refine wpList_build _ (by rfl) 72 #[(0, .tmp 5)] (by rfl) #[(0, .int .i32 x)] (by simp [go_sem]) _ (built72 x) ?_) | (go_at_call 14; refine H.out.mono ?_; rintro e w' ⟨rfl, hb⟩; have HB := Lib.hid hb; clear hb))
  go_end0
  exact ⟨rfl, HB.out⟩
theorem asm15 (b : Nat) (m : Bool) (v : Value) (s : ByteArray) (cs ds : Array Value) (w : World) (hp : Prn w b m v) : Calls Tryf.prog 15 #[.pointer (some ⟨b, 0, none⟩), .agg cs, .string s, .agg ds] w (Nb w) := by
  have d34 : ∀ o o', ((w.alloc o).alloc o').cell? ⟨b, 34, none⟩ = some (.bool false) := fun o o' => (World.cell?_of_block ((heap_alloc_old _ o' (by have := hp.lt; simp; omega)).trans (heap_alloc_old w o hp.lt))).trans hp.cells.2.2.2.2.2
  clear hp
  go_enter Tryf.func15, Tryf.ntmps15
  go_wp2_with (fail)
  go_end0
  exact ⟨rfl, ((Below.refl _ _).alloc (Nat.le_refl _) _).alloc (by simp) _⟩
theorem asm9 (b : Nat) (m : Bool) (v : Value) (x y z : Int) (s : ByteArray) (w : World) (hp : Prn w b m v) : Calls Tryf.prog 9 #[.pointer (some ⟨b, 0, none⟩), .int .i32 x, .string s, .int .u32 y, .int .u32 z] w (Nb w) := by
  have H := Lib.hid (asm15 b m v s #[.int .i32 x] #[.int .u32 y, .int .u32 z] w hp)
  clear hp
  go_enter Tryf.func9, Tryf.ntmps9
  go_wp2_with (first | (refine wpList_build _ (by rfl) 72 #[(0, .tmp 11)] (by rfl) #[(0, .int .i32 x)] (by simp [go_sem]) _ (built72 x) ?_) | (refine wpList_build _ (by rfl) 42 #[(0, .tmp 14), (1, .tmp 15)] (by rfl) #[(0, .int .u32 y), (1, .int .u32 z)] (by simp [go_sem]) _ (built42 y z) ?_) | (go_at_call 15; refine H.out.mono ?_; rintro e w' ⟨rfl, hb⟩; have HB := Lib.hid hb; clear hb))
  go_end0
  exact ⟨rfl, HB.out⟩
/-! ### operations cloned, two outputs held against each other, the lengths asked -/
theorem cloneO_nil (w : World) : Calls Tryf.prog 6 #[.slice none 0 0] w fun e w' => e = .returned (.slice none 0 0) ∧ w = w' := by
  have hnl := fun (W : World) (a : Option Addr) (n c : Nat) => Lib.run_eql_slice_nil (P := Tryf.prog) W 22 5 a n c 0 0 Tryf.underlying22
  go_enter Tryf.func6, Tryf.ntmps6
  go_wp2
  go_ret
  exact ⟨rfl, rfl⟩
theorem cloneO_some (x : Addr) (n c : Nat) (l : List UInt8) (w : World) (hl : l.length = n) (hn : n ≤ 16777216) (hr : Rd w w.heap.size (some x) (bv l)) :
    Calls Tryf.prog 6 #[.slice (some x) n c] w fun e w' => e = .returned (.slice (some ⟨w.heap.size, 0, none⟩) n n) ∧ Own w' w.heap.size 5 (.slice (some ⟨w.heap.size, 0, none⟩) n n) (bv l) ∧ Below w.heap.size w w' := by
  have hmk := fun W => run_make_row' (P := Tryf.prog) 22 5 (.int .u8 0) 1 Tryf.underlying22 infoB rfl .i64 .i64 n (by omega) (by omega) W
  have HL := Lib.hid hl; clear hl
  have HRd := Lib.hid hr; clear hr
  have hnl := fun (W : World) (a : Option Addr) (n c : Nat) => Lib.run_eql_slice_nil (P := Tryf.prog) W 22 5 a n c 0 0 Tryf.underlying22
  go_enter Tryf.func6, Tryf.ntmps6
  go_wp2
  clear hmk hnl
  go_loopw [4] (fun i wr => ∃ k : Nat, k ≤ n ∧ i = .int .i64 k ∧ wr.rowIs w.heap.size 5 n (copB l k) ∧ Below w.heap.size w wr) (fun i _ => n - (intOf i).toNat)
  case atStart => exact ⟨0, by omega, rfl, (World.rowIs_made w (.int .u8 0) n 5).congr (fun i _ => by unfold copB; rw [if_neg (by omega)]), (Below.refl _ _).alloc (Nat.le_refl _) _⟩
  case round =>
    obtain ⟨k, hk, rfl, HR, hbel⟩ := hrel
    by_cases hlt : k < n
    · have hkl : k < l.length := by rw [HL.out]; exact hlt
      obtain ⟨y, hy, hb, hc⟩ := HRd.out.at_ (bv_at l k hkl)
      injection hy with hy; subst hy
      have cx := (hbel.cell (p := x.add k) (by rw [add_block]; exact hb)).trans hc
      have cw := HR.cell (i := k) hlt
      have fw := HR.frozen k
      have R2 := Lib.hid ((HR.set k _).congr (fun i _ => copB_step l k _ (bv_at l k hkl) i))
      have B2 := Lib.hid (hbel.setCell (p := ⟨w.heap.size, k, none⟩) (Nat.le_refl _) (.int .u8 (l[k].toNat : Int)))
      obtain ⟨q, hq⟩ : ∃ q : Int, q = (l[k].toNat : Int) := ⟨_, rfl⟩
      rw [← hq] at cx R2 B2
      clear HR hbel hq hb hc
      go_wp2
      go_roundw
      case rel => exact ⟨k + 1, by omega, by go_num, R2.out, B2.out⟩
      case measure => simp [intOf]; omega
    · have hkn : k = n := by omega
      subst hkn
      have R2 := Lib.hid HR
      have B2 := Lib.hid hbel
      clear HR hbel
      go_wp2
      go_ret
      refine ⟨rfl, ?_, B2.out⟩
      have e1 : (bv l).length = k := by rw [bv_len, HL.out]
      refine Own.of_row (R2.out) e1 (fun i hi => ?_) (Nat.le_refl _) (by unfold maxLen; omega)
      unfold copB
      rw [if_pos hi, List.getD_eq_getElem?_getD, List.getElem?_eq_getElem (by omega)]; rfl
theorem cloneO (A : Option Addr) (n c : Nat) (l : List UInt8) (w : World) (hl : l.length = n) (hn : n ≤ 16777216) (hnil : A = none → n = 0 ∧ c = 0) (hr : Rd w w.heap.size A (bv l)) : Calls Tryf.prog 6 #[.slice A n c] w (ClB n l w) := by
  rcases A with _ | x
  · obtain ⟨rfl, rfl⟩ := hnil rfl
    obtain rfl : l = [] := List.eq_nil_of_length_eq_zero hl
    refine (cloneO_nil w).mono ?_
    rintro e w' ⟨rfl, rfl⟩
    exact ⟨none, 0, rfl, Own.nil _ _ _, Below.refl _ _⟩
  · refine (cloneO_some x n c l w hl hn hr).mono ?_
    rintro e w' ⟨rfl, h1, h2⟩
    exact ⟨_, _, rfl, h1, h2⟩

theorem same_long (A B : Option Addr) (n c d : Nat) (l : List UInt8) (w : World) (hl : l.length = n) (hn : n ≤ 1073741824) (ha : Rd w w.heap.size A (bv l)) (hb : Rd w w.heap.size B (bv l)) :
    Calls Tryf.prog 12 #[.slice A n c, .slice B n d] w fun e w' => e = .returned (.bool true) ∧ ∃ k, w' = w.drewN k := by
  have HL := Lib.hid hl; clear hl
  have HA := Lib.hid ha; have HB := Lib.hid hb; clear ha hb
  have z : ((n : Int) != (n : Int)) = false := by simp
  go_enter Tryf.func12, Tryf.ntmps12
  go_wp2
  go_loopw [5] (fun i wr => ∃ k q : Nat, k ≤ n ∧ i = .int .i64 k ∧ wr = w.drewN q) (fun i _ => n - (intOf i).toNat)
  case atStart => exact ⟨0, 0, by omega, rfl, rfl⟩
  case round =>
    obtain ⟨k, q, hk, rfl, rfl⟩ := hrel
    by_cases hlt : k < n
    · have hkl : k < l.length := by rw [HL.out]; exact hlt
      obtain ⟨x, rfl, _, hx⟩ := HA.out.at_ (bv_at l k hkl)
      obtain ⟨y, rfl, _, hy⟩ := HB.out.at_ (bv_at l k hkl)
      obtain ⟨u, hu⟩ : ∃ u : Int, u = (l[k].toNat : Int) := ⟨_, rfl⟩
      rw [← hu] at hx hy
      clear hu
      have x1 : (0 : Int) ≤ (k : Int) := by omega
      have x2 : (k : Int) < (n : Int) := by omega
      have zz : (u != u) = false := by simp
      go_wp2
      go_quiet (fail)
      go_wp2
      go_roundw
      case rel => exact ⟨k + 1, _, by omega, by go_num, rfl⟩
      case measure => simp [intOf]; omega
    · go_wp2
      go_ret
      exact ⟨rfl, q, rfl⟩

/-- If it says yes, what the arguments lead to is short. -/
theorem bytes4 (A0 : Option Addr) (n0 c0 : Nat) (A1 : Option Addr) (n1 c1 : Nat) (A2 : Option Addr) (n2 c2 : Nat) (s3 : ByteArray) (s4 : ByteArray) (x5 : Value) (x6 : Value) (x7 : Value) (x8 : Value) (w : World) (hn0 : n0 ≤ maxLen) (hn1 : n1 ≤ maxLen) (hn2 : n2 ≤ maxLen) (hs3 : s3.size ≤ maxLen) (hs4 : s4.size ≤ maxLen) :
    Calls Tryf.prog 4 #[.slice A0 n0 c0, .slice A1 n1 c1, .slice A2 n2 c2, .string s3, .string s4, x5, x6, x7, x8] w (Bd (n0 + n1 + n2 + s3.size + s4.size ≤ 1048576) w) := by
  unfold maxLen at hn0
  unfold maxLen at hn1
  unfold maxLen at hn2
  unfold maxLen at hs3
  unfold maxLen at hs4
  go_enter Tryf.func4, Tryf.ntmps4
  go_wp2
  all_goals first | (go_ret; exact ⟨false, rfl, (fun h => by cases h), rfl⟩) | skip
  go_ret
  exact ⟨true, rfl, (fun _ => by omega), rfl⟩

end Go.Proofs.YtpglhdmcbbghpaaFmt.Jsp
