/- isExternal by its contracts: an entry point; a path that is listed; a last pattern that catches all. Conditions: lengths. -/
import Derived.Test.YtcfhlgimbipgcaaFmtIxa
namespace Go.Proofs.YtcfhlgimbipgcaaFmt.Ixb
open Go.RowKit Go.Deep Go.Proofs.YtcfhlgimbipgcaaFmt.Base Go.Proofs.YtcfhlgimbipgcaaFmt.Sls Go.Proofs.YtcfhlgimbipgcaaFmt.Mps Go.Proofs.YtcfhlgimbipgcaaFmt.Ixa
set_option linter.unusedVariables false
attribute [local go_sem ↓] Go.wp_at_zero Go.wp_at_succ
/-- What a look for the path in the map answers, in this world. -/
def Lk (w : World) (M : Value) (p : ByteArray) (x : Value) (b : Bool) : Prop := (Instr.lookup 26 M (.string p) true).run Tryf.prog w = .ok (.tuple #[x, .bool b]) w
theorem lk_none (w : World) (p : ByteArray) : Lk w (.map none) p (.bool false) false := by
  unfold Lk
  kernel_rfl
theorem lk_map {w : World} {b n : Nat} {f : ByteArray → Option Value} (h : MapIs Tryf.prog 9 w b n f) (p : ByteArray) (hp : p.size ≤ maxLen) : Lk w (.map (some b)) p ((f p).getD (.bool false)) (f p).isSome :=
  h.look Tryf.underlying9 Tryf.underlying26 (by kernel_rfl) p hp
set_option maxRecDepth 20000 in
theorem ext_entry (M v : Value) (p : ByteArray) (w : World) :
    Calls Tryf.prog 9 #[.agg #[.pointer none, .pointer none, .pointer none, .int .u8 0], .agg #[M, v], .string p, .int .u8 0] w fun e w' => e = .returned (.bool false) ∧ Below w.heap.size w w' := by
  go_enter Tryf.func9, Tryf.ntmps9
  go_wp2
  go_ret
  exact ⟨rfl, by go_grown⟩
set_option maxRecDepth 20000 in
theorem ext_hit (M v x : Value) (p : ByteArray) (k : Int) (w : World) (hk : (k == 0) = false) (hl : ∀ o0 o1, Lk ((w.alloc o0).alloc o1) M p x true) :
    Calls Tryf.prog 9 #[.agg #[.pointer none, .pointer none, .pointer none, .int .u8 0], .agg #[M, v], .string p, .int .u8 k] w fun e w' => e = .returned (.bool true) ∧ Below w.heap.size w w' := by
  have hlk := hl (.cells #[.pointer none, .pointer none, .pointer none, .int .u8 0] 39) (.cells #[M, v] 29)
  unfold Lk at hlk
  clear hl
  go_enter Tryf.func9, Tryf.ntmps9
  go_wp2
  go_ret
  exact ⟨rfl, by go_grown⟩
def rq4 : Nat → Value
  | 3 => .int .u8 0
  | _ => .pointer none
theorem rowq (w : World) : (w.alloc (.cells #[.pointer none, .pointer none, .pointer none, .int .u8 0] 39)).rowIs w.heap.size 39 4 rq4 :=
  World.rowIs_alloc w #[.pointer none, .pointer none, .pointer none, .int .u8 0] 39 _ (fun i hi => by
    match i, hi with
    | 0, _ => rfl
    | 1, _ => rfl
    | 2, _ => rfl
    | 3, _ => rfl)
theorem hp_nil (s : List UInt8) : Lib.hasPrefix s ({ data := #[] } : ByteArray).data.toList = true := rfl
theorem hs_nil (s : List UInt8) : Lib.hasSuffix s ({ data := #[] } : ByteArray).data.toList = true := by
  unfold Lib.hasSuffix
  rw [List.isSuffixOf_iff_suffix]
  exact ⟨s, by simp⟩
set_option maxRecDepth 20000 in
set_option maxHeartbeats 2000000 in
theorem ext_star (M v x : Value) (p : ByteArray) (k : Int) (w : World) (base : Nat) (l : List (ByteArray × ByteArray)) (hk : (k == 0) = false) (hl : ∀ o0 o1, Lk ((w.alloc o0).alloc o1) M p x false) (hp : p.size ≤ 1048576) (hn : l.length ≤ 1048577) (hv : Pw w base v l)
    (hz : ∀ q ∈ l, q.1.size ≤ 1048576 ∧ q.2.size ≤ 1048576) (h0 : 0 < l.length) (hlast : ∀ h : l.length - 1 < l.length, l[l.length - 1] = ({ data := #[] }, { data := #[] })) :
    Calls Tryf.prog 9 #[.agg #[.pointer none, .pointer none, .pointer none, .int .u8 0], .agg #[M, v], .string p, .int .u8 k] w fun e w' => e = .returned (.bool true) ∧ Below w.heap.size w w' := by
  have hlk := hl (.cells #[.pointer none, .pointer none, .pointer none, .int .u8 0] 39) (.cells #[M, v] 29)
  unfold Lk at hlk
  obtain ⟨A, c, rfl, hA⟩ := hv.at_
  obtain ⟨g, rfl, hbg, hgw, hcell⟩ := hA h0
  obtain ⟨n, hn'⟩ : ∃ n, n = l.length := ⟨_, rfl⟩
  rw [← hn'] at hlk ⊢
  have HN := Lib.hid hn'
  have HC := Lib.hid hcell
  have HZ := Lib.hid hz
  have HLA := Lib.hid hlast
  have hn2 : n ≤ 1048577 := by omega
  have hn0 : 0 < n := by omega
  have HP := Lib.hid (fun (q : ByteArray) w' => Tryf.strings_HasPrefix p q w')
  have HS := Lib.hid (fun (q : ByteArray) w' => Tryf.strings_HasSuffix p q w' (by omega))
  clear hl hv hA hcell hz hlast h0 hn hn'
  have R0 : Hid (∀ (x : World) (o : Obj), ((x.alloc (.cells #[.pointer none, .pointer none, .pointer none, .int .u8 0] 39)).alloc o).rowIs x.heap.size 39 4 rq4) := Lib.hid fun x o => (rowq x).alloc _
  go_enter Tryf.func9, Tryf.ntmps9
  go_wp2
  go_loopw [26] (fun i wr => ∃ j : Nat, j < n ∧ i = .int .i64 j ∧ wr.rowIs w.heap.size 39 4 rq4 ∧ Below w.heap.size w wr) (fun i _ => n - (intOf i).toNat)
  case atStart => exact ⟨0, hn0, rfl, R0.out _ _, ((Below.refl _ _).alloc (Nat.le_refl _) _).alloc (by simp only [World.size_alloc]; omega) _⟩
  case round =>
    obtain ⟨j, hj, rfl, HR, hbel⟩ := hrel
    have hjl : j < l.length := by rw [← HN.out]; exact hj
    obtain ⟨k1, k2⟩ := HC.out j hjl
    have d2 := HR.cell (i := 2) (by omega)
    simp only [rq4] at d2
    obtain ⟨z1, z2⟩ := HZ.out _ (List.getElem_mem hjl)
    have hl := HLA.out
    obtain ⟨s1, hs1⟩ : ∃ s1, s1 = l[j].1 := ⟨_, rfl⟩
    obtain ⟨s2, hs2⟩ : ∃ s2, s2 = l[j].2 := ⟨_, rfl⟩
    have hend : j + 1 = n → s1 = { data := #[] } ∧ s2 = { data := #[] } := by
      intro e
      have hj2 : j = l.length - 1 := by have := HN.out; omega
      subst hj2
      have := hl (by omega)
      rw [hs1, hs2, this]; exact ⟨rfl, rfl⟩
    rw [← hs1] at k1 z1
    rw [← hs2] at k2 z2
    have c1 : wr.cell? ⟨g, j * 2, none⟩ = some (.string s1) := (bcell hbel hgw _).trans k1
    have c2 : wr.cell? ⟨g, j * 2 + 1, none⟩ = some (.string s2) := (bcell hbel hgw _).trans k2
    have hsz := HR.lt
    have hgr : g < wr.heap.size := by omega
    have HP1 := Lib.hid (HP.out s1); have HS2 := Lib.hid (HS.out s2)
    have Q0 := Lib.hid HR; have Q3 := Lib.hid hbel
    have x1 : (0 : Int) ≤ (j : Int) := by omega
    have x2 : (j : Int) < (n : Int) := by omega
    clear k1 k2 hs1 hs2 hl HR hbel
    by_cases he : j + 1 = n
    · obtain ⟨rfl, rfl⟩ := hend he
      rw [hp_nil] at HP1
      rw [hs_nil] at HS2
      clear he
      go_wp2_with (first | (go_at_call 12; refine (HP1.out _).mono ?_; rintro e w7 ⟨rfl, rfl⟩) | (go_at_call 13; refine (HS2.out _).mono ?_; rintro e w7 ⟨rfl, rfl⟩))
      all_goals (go_ret; exact ⟨by simp, Q3.out.alloc Q3.out.size _⟩)
    · clear hend
      obtain ⟨b1, hb1⟩ : ∃ b1, b1 = Lib.hasPrefix p.data.toList s1.data.toList := ⟨_, rfl⟩
      obtain ⟨b2, hb2⟩ : ∃ b2, b2 = Lib.hasSuffix p.data.toList s2.data.toList := ⟨_, rfl⟩
      rw [← hb1] at HP1
      rw [← hb2] at HS2
      clear hb1 hb2
      go_wp2_with (first | (go_at_call 12; refine (HP1.out _).mono ?_; rintro e w7 ⟨rfl, rfl⟩) | (go_at_call 13; refine (HS2.out _).mono ?_; rintro e w7 ⟨rfl, rfl⟩))
      all_goals first | (go_ret; exact ⟨by simp, Q3.out.alloc Q3.out.size _⟩) | skip
      all_goals exact ⟨⟨j + 1, by omega, by go_num, Q0.out.alloc _, Q3.out.alloc Q3.out.size _⟩, by simp [intOf]; omega⟩
/-! ### the exported form -/
theorem zz7 (M v : Value) (p : ByteArray) (k : Int) (r : Bool) (w : World) (h : ∀ o, Calls Tryf.prog 9 #[.agg #[.pointer none, .pointer none, .pointer none, .int .u8 0], .agg #[M, v], .string p, .int .u8 k] (w.alloc o) fun e w' => e = .returned (.bool r) ∧ Below (w.alloc o).heap.size (w.alloc o) w') :
    Calls Tryf.prog 7 #[.agg #[M, v], .string p, .int .u8 k] w fun e w' => e = .returned (.bool r) ∧ Below w.heap.size w w' := by
  have H := Lib.hid (h (.cells #[M, v] 29))
  clear h
  go_enter Tryf.func7, Tryf.ntmps7
  go_wp2_with (fail)
  refine H.out.mono ?_
  rintro e w2 ⟨rfl, hb⟩
  have HB := Lib.hid (((Below.refl w.heap.size w).alloc (Nat.le_refl _) _).trans (hb.mono (by simp only [World.size_alloc]; omega)))
  clear hb
  go_wp2
  go_ret
  exact ⟨rfl, HB.out⟩
end Go.Proofs.YtcfhlgimbipgcaaFmt.Ixb
