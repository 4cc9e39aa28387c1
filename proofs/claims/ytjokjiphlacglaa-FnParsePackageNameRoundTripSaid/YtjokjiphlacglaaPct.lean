/- strings.ContainsAny at the two characters backslash and percent, by its contract, for every string: it says whether one of the two bytes lies in it. Condition: a length below 2^32 - 15. -/
import Derived.Test.YtjokjiphlacglaaNames
import Derived.Lib.OthersKept
import Derived.Laws.RangeAny
import Derived.Laws.RangeString
import Derived.Laws.Runes
import Derived.Lib.IndexAny
import Derived.WalkMore
import Derived.IntWalk
namespace Go.Proofs.Ytjokjiphlacglaa.Pct
open Go.ChangeShapes Go.WideShapes Go.ChangeAt Go.RowKit Go.Proofs.Ytjokjiphlacglaa.Base Go.Proofs.Ytjokjiphlacglaa.Names
set_option linter.unusedVariables false
/-! ### PLAIN -/
def bp : ByteArray := { data := #[92, 37] }
/-- Neither byte lies in it. -/
def cleanL (l : List UInt8) : Prop := l.count 92 = 0 ∧ l.count 37 = 0
def badB (s : ByteArray) : Bool := decide (¬ (s.data.toList.count 92 = 0 ∧ s.data.toList.count 37 = 0))
theorem get_of (s : ByteArray) (i : Nat) (h : i < s.size) : s.get! i = s[i] := by
  simp [ByteArray.get!, getElem!_pos, h]
  rfl
/-- The bytes from i on, n of them, are there, and none is ASCII. -/
def High (s : ByteArray) (i n : Nat) : Prop := i + n ≤ s.size ∧ ∀ k (hk : k < s.size), i ≤ k → k < i + n → 128 ≤ (s[k]).toNat
theorem High.one {s : ByteArray} {i : Nat} (h : i < s.size) (hb : 128 ≤ (s[i]).toNat) : High s i 1 := ⟨by omega, fun k hk h1 h2 => by
  obtain rfl : k = i := by omega
  exact hb⟩
theorem High.more {s : ByteArray} {i n : Nat} (h : High s i n) (hc : (decide (i + n < s.size) && (s.get! (i + n)).toNat / 64 == 2) = true) : High s i (n + 1) := by
  rw [Bool.and_eq_true, decide_eq_true_eq] at hc
  refine ⟨by omega, fun k hk h1 h2 => ?_⟩
  by_cases e : k < i + n
  · exact h.2 k hk h1 e
  · obtain rfl : k = i + n := by omega
    have := hc.2
    rw [get_of s (i + n) hk] at this
    have := eq_of_beq this
    omega
theorem decode_span (s : ByteArray) (i : Nat) (h : i < s.size) (hb : 128 ≤ (s[i]).toNat) : High s i (Utf8.decode s i).2 := by
  have h1 := High.one h hb
  have e0 : (s.get! (i + 0)).toNat = (s[i]).toNat := by rw [Nat.add_zero, get_of s i h]
  simp only [Utf8.decode]
  split
  · omega
  · split
    · rename_i hx
      rw [Bool.and_eq_true] at hx
      have h2 := h1.more hx.2
      split
      · exact h2
      · exact h1
    · split
      · rename_i hx
        rw [Bool.and_eq_true, Bool.and_eq_true] at hx
        have h3 := (h1.more hx.1.2).more hx.2
        split
        · exact h3
        · exact h1
      · split
        · rename_i hx
          rw [Bool.and_eq_true, Bool.and_eq_true, Bool.and_eq_true] at hx
          have h4 := ((h1.more hx.1.1.2).more hx.1.2).more hx.2
          split
          · exact h4
          · exact h1
        · exact h1
theorem clean_high (s : ByteArray) (i n : Nat) (h : High s i n) (hc : cleanL (s.data.toList.take i)) : cleanL (s.data.toList.take (i + n)) := by
  have key : ∀ m, m ≤ n → cleanL (s.data.toList.take (i + m)) := by
    intro m
    induction m with
    | zero => intro _; exact hc
    | succ m ih =>
      intro hm
      have hk : i + m < s.size := by have := h.1; omega
      have hb := h.2 (i + m) hk (by omega) (by omega)
      have n1 : s[i + m] ≠ 92 := fun e => by rw [e] at hb; exact absurd hb (by decide)
      have n2 : s[i + m] ≠ 37 := fun e => by rw [e] at hb; exact absurd hb (by decide)
      have := ih (by omega)
      rw [show i + (m + 1) = i + m + 1 by omega]
      exact ⟨by rw [count_snoc s 92 _ hk, this.1, if_neg n1], by rw [count_snoc s 37 _ hk, this.2, if_neg n2]⟩
  exact key n (Nat.le_refl _)
/-! ### IndexRune at the two characters -/
set_option maxRecDepth 1000000 in
theorem rune_err (w : World) :
    Calls Try.prog 24 #[.string { data := #[92, 37] }, .int .i32 65533] w fun e w' => e = .returned (.int .i64 (-1)) ∧ Below w.heap.size w w' := by
  have n0 := fun ty => run_next_ascii (P := Try.prog) w ({ data := #[92, 37] } : ByteArray) 0 ty (by decide) (by decide)
  have n1 := fun ty => run_next_ascii (P := Try.prog) w ({ data := #[92, 37] } : ByteArray) 1 ty (by decide) (by decide)
  have n2 := fun ty => run_next_end (P := Try.prog) w ({ data := #[92, 37] } : ByteArray) 2 ty (by decide)
  have N0 := Lib.hid n0; have N1 := Lib.hid n1; have N2 := Lib.hid n2
  clear n0 n1 n2
  go_enter Try.func24, Try.ntmps24
  go_wp2
  go_loopg [5, 6] 2 (fun g _ _ wx => ∃ i : Nat, i + g = 2 ∧ wx = w.iter { data := #[92, 37] } i)
  case atStart => exact ⟨0, by omega, rfl⟩
  case round =>
    obtain ⟨i, hig, rfl⟩ := hrel
    match gk, hig with
    | 0, hig =>
      obtain rfl : i = 2 := by omega
      have n2 := N2.out
      go_wp2
      go_ret
      exact ⟨rfl, (Below.refl _ _).alloc (Nat.le_refl _) _⟩
    | 1, hig =>
      obtain rfl : i = 1 := by omega
      have n1 := N1.out
      go_wp2
      go_roundg 0
      case measure => omega
      case rel => exact ⟨2, by omega, rfl⟩
    | 2, hig =>
      obtain rfl : i = 0 := by omega
      have n0 := N0.out
      go_wp2
      go_roundg 1
      case measure => omega
      case rel => exact ⟨1, by omega, rfl⟩
theorem quiet_ib (c : Int) (w : World) (n : Nat) (s : ByteArray) (hs : s.size = 0) :
    Calls Try.prog 17 #[.string s, .int .u8 c] (w.drewN n) fun e w'' => e = .returned (.int .i64 (-1)) ∧ ∃ m, w'' = w.drewN m :=
  (Try.strings_IndexByte s c (w.drewN n)).mono fun e w' ⟨he, hw⟩ => ⟨by
    have : s.data.toList = [] := List.eq_nil_of_length_eq_zero (by rw [len_list]; exact hs)
    rw [he, this]; rfl, n, hw⟩
theorem quiet_ib2 (c : Int) (w : World) (a n : Nat) (s : ByteArray) (hs : s.size = 0) :
    Calls Try.prog 17 #[.string s, .int .u8 c] (w.drewN (a + n)) fun e w'' => e = .returned (.int .i64 (-1)) ∧ ∃ m, w'' = w.drewN (a + m) :=
  (Try.strings_IndexByte s c (w.drewN (a + n))).mono fun e w' ⟨he, hw⟩ => ⟨by
    have : s.data.toList = [] := List.eq_nil_of_length_eq_zero (by rw [len_list]; exact hs)
    rw [he, this]; rfl, n, hw⟩
set_option maxRecDepth 1000000 in
theorem rune_no (r : Int) (w : World) (h1 : 128 ≤ r) (h2 : r ≤ 2147483647) :
    Calls Try.prog 24 #[.string { data := #[92, 37] }, .int .i32 r] w fun e w' => e = .returned (.int .i64 (-1)) ∧ Below w.heap.size w w' := by
  by_cases hr : r = 65533
  · subst hr
    exact rune_err w
  · have a1 : decide ((0 : Int) ≤ r) = true := by simp; omega
    have a2 : decide (r < 128) = false := by simp; omega
    have a3 : (r == 65533) = false := by rw [beq_eq_false_iff_ne]; exact hr
    by_cases hv : Utf8.valid r = true
    · have hvr : Lib.validRune r = true := by
        unfold Lib.validRune; unfold Utf8.valid at hv
        simp at hv ⊢; omega
      obtain ⟨f1, f2, f3⟩ := encode_facts r hv h1
      obtain ⟨rs, hrs⟩ : ∃ rs, rs = Utf8.encode r := ⟨_, rfl⟩
      have hcv := fun W : World => run_convert_int_string (P := Try.prog) W 21 9 .i32 r (by rw [Try.underlying21]; rfl) Try.underlying9
      rw [← hrs] at f1 f2 f3 hcv
      clear hr hv hrs
      by_cases hsz : rs.size = 2
      · have hlt : 1 < rs.size := by omega
        have h128 : 128 ≤ (rs[1]'hlt).toNat := by
          have := f3 (by omega)
          simp only [hsz] at this
          exact this
        have hne : ((37 : Int) != ((rs[1]'hlt).toNat : Int)) = true := by rw [bne_iff_ne]; omega
        have hne2 : (((({ data := #[92, 37] } : ByteArray)[1]'(by decide)).toNat : Int) != ((rs[1]'hlt).toNat : Int)) = true := hne
        have hz0 : ({ data := #[] } : ByteArray).size = 0 := rfl
        clear f1 f2 f3
        go_enter Try.func24, Try.ntmps24
        go_wp2_with (go_at_call 28; refine (Try.utf8_ValidRune r _).mono ?_; rw [hvr]; rintro e w' ⟨rfl, rfl⟩)
        go_step3
        go_wp2
        go_loop [9] (fun i => i = .int .i64 1) (fun _ => 0)
        case atStart => rfl
        case round =>
          subst hrel
          go_wp2
          go_step3
          go_wp2
          go_quiet (fail)
          go_wp2
          have hw2 : IntKind.i64.wrap 2 = 2 := IntWalk.i64_in _ (by omega)
          have hsl : ∀ W : World, (Instr.slice 9 (.string { data := #[92, 37] }) (some (.int .i64 2)) none none).run Try.prog W = .ok (.string { data := #[] }) W := fun W => by kernel_rfl
          go_quiet ((go_at_call 17; first | exact quiet_ib2 _ _ _ _ _ hz0 | exact quiet_ib _ _ _ _ hz0))
          go_wp2
          simp (config := { zetaDelta := true }) only [Exit.inBlock, Exit.then, Exit.noGoto]
          go_ret
          exact ⟨rfl, below_draws (Below.refl _ _) _⟩
      · have hlt : 3 ≤ rs.size := by omega
        clear f1 f3 hsz
        go_enter Try.func24, Try.ntmps24
        go_wp2_with (go_at_call 28; refine (Try.utf8_ValidRune r _).mono ?_; rw [hvr]; rintro e w' ⟨rfl, rfl⟩)
        go_step3
        go_wp2
        go_loop [9] (fun i => i = .int .i64 ((rs.size : Int) - 1)) (fun _ => 0)
        case atStart => rfl
        case round =>
          subst hrel
          go_wp2
          go_ret
          exact ⟨rfl, Below.refl _ _⟩
    · have hvr : Lib.validRune r = false := by
        unfold Lib.validRune; unfold Utf8.valid at hv
        simp at hv ⊢; omega
      clear hr hv
      go_enter Try.func24, Try.ntmps24
      go_wp2_with (go_at_call 28; refine (Try.utf8_ValidRune r _).mono ?_; rw [hvr]; rintro e w' ⟨rfl, rfl⟩)
      go_ret
      exact ⟨rfl, Below.refl _ _⟩
/-! ### IndexAny, ContainsAny -/
theorem iter_below {B : Nat} {a w : World} {k : Nat} {s : ByteArray} {pos : Nat} (h : Below B a w) (hk : B ≤ k) : Below B a (w.iterAt k s pos) :=
  ⟨h.os, h.tape, h.output, by simpa [World.iterAt] using h.size, fun i hi => by
    show (w.heap.setIfInBounds k _)[i]? = _
    rw [Array.getElem?_setIfInBounds_ne (by omega)]; exact h.block i hi⟩
theorem ix (c : UInt8) (h : c.toNat < 128) : Lib.indexByte [92, 37] (c.toNat : Int).toNat.toUInt8 = if c = 92 then 0 else if c = 37 then 1 else -1 := by
  have e : (c.toNat : Int).toNat.toUInt8 = c := by simp
  rw [e]
  by_cases h1 : c = 92
  · subst h1; rfl
  · by_cases h2 : c = 37
    · subst h2; rfl
    · rw [if_neg h1, if_neg h2]
      have n1 : ((92 : UInt8) == c) = false := by simpa using fun h => h1 h.symm
      have n2 : ((37 : UInt8) == c) = false := by simpa using fun h => h2 h.symm
      simp [Lib.indexByte, n1, n2]
/-- What IndexAny says of a string. -/
def Anyd (s : ByteArray) (w : World) (e : Ending) (w' : World) : Prop := ∃ v : Int, e = .returned (.int .i64 v) ∧ decide (0 ≤ v) = badB s ∧ Below w.heap.size w w'
set_option maxRecDepth 1000000 in
set_option maxHeartbeats 1000000 in
theorem any_short (s : ByteArray) (w : World) (h8 : s.size ≤ 8) : Calls Try.prog 22 #[.string s, .string { data := #[92, 37] }] w (Anyd s w) := by
  have h8z : decide ((8 : Int) < (s.size : Int)) = false := decide_eq_false (by omega)
  go_enter Try.func22, Try.ntmps22
  go_wp2_with (go_at_call 25; refine (Try.strings_shouldUseASCIISet _ _).mono ?_; rintro e w' ⟨rfl, hw⟩; rw [hw, h8z])
  go_loopg [9, 10] s.size (fun g _ _ wx => ∃ i : Nat, i + g = s.size ∧ wx.heap[w.heap.size]? = some (.stringIter s i) ∧ Hid (cleanL (s.data.toList.take i)) ∧ Below w.heap.size w wx)
  case atStart => exact ⟨0, by omega, World.iter_heap w s 0, Lib.hid ⟨rfl, rfl⟩, (Below.refl _ _).alloc (Nat.le_refl _) _⟩
  case round =>
    obtain ⟨i, hig, hit, HC, hbel⟩ := hrel
    by_cases hlt : i < s.size
    · have HIT := Lib.hid hit; have HB := Lib.hid hbel
      have hzw := hbel.size
      have hwl : w.heap.size < wr.heap.size := (Array.getElem?_eq_some_iff.1 hit).1
      clear hit hbel
      by_cases hb : (s[i]).toNat < 128
      · have hnx := fun ty => Lib.run_next_ascii_at (P := Try.prog) wr w.heap.size s i ty HIT.out hlt hb
        have HI := Lib.hid (ix s[i] hb)
        have HSN := Lib.hid (And.intro (count_snoc s 92 i hlt) (count_snoc s 37 i hlt))
        have HIT2 := Lib.hid (Lib.iterAt_heap wr w.heap.size s i (i + 1) HIT.out)
        have HB2 := Lib.hid (iter_below (s := s) (pos := i + 1) HB.out (Nat.le_refl _))
        obtain ⟨x, hx⟩ : ∃ x : UInt8, x = s[i] := ⟨_, rfl⟩
        rw [← hx] at hb hnx HI HSN
        have HX := Lib.hid hx
        clear hx
        by_cases hc : x = 92 ∨ x = 37
        · have hv : 0 ≤ (if x = 92 then (0 : Int) else if x = 37 then 1 else -1) := by
            split
            · omega
            · rw [if_pos (by rcases hc with h | h <;> first | contradiction | exact h)]; omega
          have hbad : badB s = true := by
            unfold badB
            have hmem := List.mem_of_getElem? (get_list? s i hlt)
            rw [← HX.out] at hmem
            rw [decide_eq_true_eq]
            rintro ⟨q1, q2⟩
            rcases hc with h | h
            · rw [h] at hmem; exact absurd (List.count_pos_iff.2 hmem) (by omega)
            · rw [h] at hmem; exact absurd (List.count_pos_iff.2 hmem) (by omega)
          have HBAD := Lib.hid hbad
          have C24 := Lib.hid (fun W => Try.strings_IndexRune_ascii ({ data := #[92, 37] } : ByteArray) (x.toNat : Int) W (by omega) (by omega))
          obtain ⟨v, hvv⟩ : ∃ v : Int, v = Lib.indexByte ({ data := #[92, 37] } : ByteArray).data.toList (x.toNat : Int).toNat.toUInt8 := ⟨_, rfl⟩
          rw [← hvv] at C24
          have hv2 : 0 ≤ v := by
            rw [hvv]; have := HI.out; show 0 ≤ Lib.indexByte [92, 37] _; rw [this]; exact hv
          clear hvv hv hbad hc
          go_wp2_with fail
          refine (C24.out _).mono ?_
          rintro e w' ⟨rfl, rfl⟩
          go_wp2
          go_ret
          exact ⟨_, rfl, by rw [HBAD.out]; simp, HB2.out⟩
        · have hv : (if x = 92 then (0 : Int) else if x = 37 then 1 else -1) = -1 := by
            rw [if_neg (fun h => hc (.inl h)), if_neg (fun h => hc (.inr h))]
          have HC2 : Hid (cleanL (s.data.toList.take (i + 1))) := Lib.hid ⟨by rw [HSN.out.1, HC.out.1, if_neg (fun h => hc (.inl h))], by rw [HSN.out.2, HC.out.2, if_neg (fun h => hc (.inr h))]⟩
          have C24 := fun W => Try.strings_IndexRune_ascii ({ data := #[92, 37] } : ByteArray) (x.toNat : Int) W (by omega) (by omega)
          have ev : Lib.indexByte ({ data := #[92, 37] } : ByteArray).data.toList (x.toNat : Int).toNat.toUInt8 = -1 := by
            show Lib.indexByte [92, 37] _ = _; rw [HI.out, hv]
          rw [ev] at C24
          have C := Lib.hid C24
          clear ev hv hc C24
          go_wp2_with fail
          refine (C.out _).mono ?_
          rintro e w' ⟨rfl, rfl⟩
          go_wp2
          go_roundg (s.size - (i + 1))
          case measure => omega
          case rel => exact ⟨i + 1, by omega, HIT2.out, HC2, HB2.out⟩
      · have hb' : 128 ≤ (s[i]).toNat := by omega
        have hnx := fun ty => Lib.run_next_any_at (P := Try.prog) wr w.heap.size s i ty HIT.out hlt
        have hd := decode_high s i hlt hb'
        have hle := decode_le s i
        have hsp := decode_span s i hlt hb'
        have hsp1 := hsp.1
        have HC2 := Lib.hid (clean_high s i _ hsp HC.out)
        have HIT2 := Lib.hid (Lib.iterAt_heap wr w.heap.size s i (i + (Utf8.decode s i).2) HIT.out)
        have HB2 := Lib.hid (iter_below (s := s) (pos := i + (Utf8.decode s i).2) HB.out (Nat.le_refl _))
        have hzi : (wr.iterAt w.heap.size s (i + (Utf8.decode s i).2)).heap.size = wr.heap.size := by simp [World.iterAt]
        have HZI := Lib.hid hzi
        generalize (Utf8.decode s i).1 = r at hnx hd hle
        generalize (Utf8.decode s i).2 = n at hnx hd hsp1 HC2 HIT2 HB2 HZI
        obtain ⟨hd1, hd2⟩ := hd
        have C := Lib.hid (fun W => rune_no (r : Int) W (by omega) (by omega))
        clear hsp hb hb' hzi
        generalize wr.iterAt w.heap.size s (i + n) = W2 at hnx HIT2 HB2 HZI
        go_wp2_with fail
        refine (C.out _).mono ?_
        rintro e w3 ⟨rfl, hb3⟩
        have HIT3 := Lib.hid ((hb3.block w.heap.size (by rw [HZI.out]; exact hwl)).trans HIT2.out)
        have HB3 := Lib.hid (below_join HB2.out HB2.out.size hb3)
        clear hb3
        go_wp2
        go_roundg (s.size - (i + n))
        case measure => omega
        case rel => exact ⟨i + n, by omega, HIT3.out, HC2, HB3.out⟩
    · have hnx := fun ty => Lib.run_next_end_at (P := Try.prog) wr w.heap.size s i ty hit hlt
      have hcl : cleanL s.data.toList := by
        have := HC.out
        rw [List.take_of_length_le (by rw [len_list]; omega)] at this; exact this
      have HBAD := Lib.hid (show badB s = false by unfold badB; rw [decide_eq_false_iff_not, Classical.not_not]; exact hcl)
      have HB := Lib.hid hbel
      clear hit hbel hcl
      go_wp2
      go_ret
      exact ⟨_, rfl, by rw [HBAD.out]; rfl, HB.out⟩
theorem clean_iff (s : ByteArray) : decide (0 ≤ Lib.indexAny s.data.toList [92, 37]) = badB s := by
  unfold badB
  rw [decide_eq_decide]
  constructor
  · intro h hc
    have : Lib.indexAny s.data.toList [92, 37] = -1 := Lib.indexAny_none (fun j b hj hb => by
      have hm := List.mem_of_getElem? hb
      have n1 : b ≠ 92 := fun e => by rw [e] at hm; exact absurd (List.count_pos_iff.2 hm) (by omega)
      have n2 : b ≠ 37 := fun e => by rw [e] at hm; exact absurd (List.count_pos_iff.2 hm) (by omega)
      simp [n1, n2])
    omega
  · intro h
    rcases Int.lt_or_le (Lib.indexAny s.data.toList [92, 37]) 0 with hlt | hge
    · exfalso
      apply h
      have key : ∀ l : List UInt8, Lib.indexAny l [92, 37] < 0 → l.count 92 = 0 ∧ l.count 37 = 0 := by
        intro l
        induction l with
        | nil => intro _; exact ⟨rfl, rfl⟩
        | cons b l ih =>
          intro hl
          have hg := Lib.indexAny_ge [92, 37] l
          unfold Lib.indexAny at hl
          by_cases hb : [92, 37].contains b = true
          · rw [if_pos hb] at hl; omega
          · rw [if_neg hb] at hl
            by_cases h1 : (Lib.indexAny l [92, 37] == -1) = true
            · have := ih (by have := eq_of_beq h1; omega)
              have hb2 : b ≠ 92 ∧ b ≠ 37 := by simpa using hb
              rw [List.count_cons_of_ne (by exact hb2.1), List.count_cons_of_ne (by exact hb2.2)]
              exact this
            · rw [if_neg h1] at hl
              have : Lib.indexAny l [92, 37] ≠ -1 := fun e => h1 (by rw [e]; rfl)
              omega
      exact key _ hlt
    · exact hge
theorem any_all (s : ByteArray) (w : World) (hs : s.size ≤ 1048576) : Calls Try.prog 22 #[.string s, .string { data := #[92, 37] }] w (Anyd s w) := by
  by_cases h8 : s.size ≤ 8
  · exact any_short s w h8
  · refine (Try.strings_IndexAny_long (by intro w; kernel_rfl) s { data := #[92, 37] } w (by decide) (by omega) (by omega) (by decide) ?_).mono ?_
    · intro j b hb
      match j, hb with
      | 0, hb => simp at hb; subst hb; decide
      | 1, hb => simp at hb; subst hb; decide
    · rintro e w' ⟨rfl, rfl⟩
      exact ⟨_, rfl, clean_iff s, ((Below.refl _ _).alloc (Nat.le_refl _) _).alloc (by simp) _⟩
theorem contains_any (s : ByteArray) (w : World) (hs : s.size ≤ 1048576) : Calls Try.prog 19 #[.string s, .string { data := #[92, 37] }] w fun e w' => e = .returned (.bool (badB s)) ∧ Below w.heap.size w w' := by
  have C := Lib.hid (any_all s w hs)
  go_enter Try.func19, Try.ntmps19
  go_wp2_with fail
  refine C.out.mono ?_
  rintro e w' ⟨v, rfl, hv, hb⟩
  have HV := Lib.hid hv; have HB := Lib.hid hb
  clear hv hb
  go_wp2
  go_ret
  exact ⟨ret_bool HV.out, HB.out⟩
end Go.Proofs.Ytjokjiphlacglaa.Pct
