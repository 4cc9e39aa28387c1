/- The walk of the law FnParseRangeIntModel: for every string and every int it returns true. No condition. -/
import Derived.Test.YtdpmblhimfebcaaItoa
import Derived.Test.YtdpmblhimfebcaaPri
import Derived.Deep.QuietTactic
import Derived.BigQuiet
namespace Go.Proofs.Ytdpmblhimfebcaa.fnParseRangeIntModel
open Go.ChangeShapes Go.WideShapes Go.ChangeAt Go.RowKit Go.Deep Go.Proofs.Ytdpmblhimfebcaa.Base Go.Proofs.Ytdpmblhimfebcaa.Itoa Go.Proofs.Ytdpmblhimfebcaa.Pri
set_option linter.unusedVariables false

/-! ### PLAIN: numbers as digits -/
theorem digs_val (n : Nat) : val (digs n) = n := by
  induction n using Nat.strongRecOn with
  | ind n ih =>
    by_cases h : n = 0
    · subst h; rw [digs_zero]; rfl
    · rw [digs_pos n h, val_snoc, ih (n / 10) (by omega), UInt8.toNat_ofNat']; omega
theorem digs_digs (n : Nat) : Digs (digs n) := by
  induction n using Nat.strongRecOn with
  | ind n ih =>
    by_cases h : n = 0
    · subst h; rw [digs_zero]; intro c hc; simp at hc
    · rw [digs_pos n h]; intro c hc
      simp only [List.mem_append, List.mem_singleton] at hc
      rcases hc with hc | rfl
      · exact ih (n / 10) (by omega) c hc
      · unfold dig; rw [UInt8.toNat_ofNat']; omega
theorem digs_head (n : Nat) (h : n ≠ 0) : ∃ x r, digs n = x :: r ∧ x ≠ 48 := by
  induction n using Nat.strongRecOn with
  | ind n ih =>
    rw [digs_pos n h]
    by_cases h2 : n / 10 = 0
    · refine ⟨UInt8.ofNat (48 + n % 10), [], by rw [h2, digs_zero]; rfl, ?_⟩
      intro hc
      have := congrArg UInt8.toNat hc
      rw [UInt8.toNat_ofNat'] at this
      have e : (48 : UInt8).toNat = 48 := rfl
      rw [e] at this; omega
    · obtain ⟨x, r, h3, h4⟩ := ih (n / 10) (by omega) h2
      exact ⟨x, r ++ [UInt8.ofNat (48 + n % 10)], by rw [h3]; rfl, h4⟩
/-- Digits, no zero ahead but a lone one. -/
def Can (l : List UInt8) : Prop := Digs l ∧ ∃ x r, l = x :: r ∧ (r = [] ∨ x ≠ 48)
theorem itoa_can (n : Nat) : Can (itoa n).data.toList := by
  unfold itoa
  by_cases h : n = 0
  · subst h; exact ⟨fun c hc => by simp at hc; subst hc; exact ⟨by decide, by decide⟩, 48, [], rfl, .inl rfl⟩
  · rw [if_neg h]; obtain ⟨x, r, h1, h2⟩ := digs_head n h; exact ⟨digs_digs n, x, r, h1, .inr h2⟩
theorem itoa_val (n : Nat) : val (itoa n).data.toList = n := by
  unfold itoa
  by_cases h : n = 0
  · subst h; rfl
  · rw [if_neg h]; exact digs_val n
theorem fold_val (l : List UInt8) : ∀ a : Nat, l.foldl (fun v c => v * 10 + (c.toNat - 48)) a = a * 10 ^ l.length + val l := by
  induction l with
  | nil => intro a; simp [val]
  | cons c l ih =>
    intro a
    show l.foldl _ (a * 10 + (c.toNat - 48)) = _
    rw [ih]
    have e : val (c :: l) = (c.toNat - 48) * 10 ^ l.length + val l := by
      show l.foldl _ (0 * 10 + (c.toNat - 48)) = _
      rw [ih, Nat.zero_mul, Nat.zero_add]
    rw [e, List.length_cons, Nat.pow_succ, Nat.add_mul, Nat.mul_assoc, Nat.mul_comm 10, Nat.add_assoc]
theorem val_app (p q : List UInt8) : val (p ++ q) = val p * 10 ^ q.length + val q := by
  have := fold_val q (val p)
  rw [← this]; unfold val; rw [List.foldl_append]
theorem val_cons (c : UInt8) (l : List UInt8) : val (c :: l) = (c.toNat - 48) * 10 ^ l.length + val l := by
  have := val_app [c] l
  simpa [val] using this
theorem val_lt (l : List UInt8) (h : Digs l) : val l < 10 ^ l.length := by
  induction l with
  | nil => simp [val]
  | cons c l ih =>
    have h1 := ih (fun d hd => h d (by simp [hd]))
    have h2 := (h c (by simp)).2
    rw [val_cons, List.length_cons, Nat.pow_succ]
    have : (c.toNat - 48) * 10 ^ l.length ≤ 9 * 10 ^ l.length := Nat.mul_le_mul_right _ (by omega)
    omega
/-- At the first place where two texts of one length part, the smaller digit is the smaller number. -/
theorem val_part (a b : List UInt8) (j : Nat) (hl : a.length = b.length) (ha : Digs a) (hb : Digs b) (hj : a.take j = b.take j) (x y : UInt8) (hx : a[j]? = some x) (hy : b[j]? = some y) (hxy : x.toNat < y.toNat) : val a < val b := by
  have part : ∀ (l : List UInt8) (z : UInt8), l[j]? = some z → l = l.take j ++ z :: l.drop (j + 1) := by
    intro l z h
    obtain ⟨h1, h2⟩ := List.getElem?_eq_some_iff.1 h
    rw [← h2, List.getElem_cons_drop, List.take_append_drop]
  have ea := part a x hx
  have eb := part b y hy
  have hla : (a.drop (j + 1)).length = (b.drop (j + 1)).length := by rw [List.length_drop, List.length_drop, hl]
  have da : Digs (a.drop (j + 1)) := fun c hc => ha c (List.mem_of_mem_drop hc)
  have db := (hb y (List.mem_of_getElem? hy)).1
  have dx := (ha x (List.mem_of_getElem? hx)).1
  have va := val_lt _ da
  rw [ea, eb, val_app, val_app, val_cons, val_cons, hj, List.length_cons, List.length_cons, hla]
  rw [hla] at va
  have : (x.toNat - 48 + 1) * 10 ^ (b.drop (j + 1)).length ≤ (y.toNat - 48) * 10 ^ (b.drop (j + 1)).length := Nat.mul_le_mul_right _ (by omega)
  rw [Nat.add_mul, Nat.one_mul] at this
  omega
theorem can_ge (l : List UInt8) (h : Can l) (h2 : 2 ≤ l.length) : 10 ^ (l.length - 1) ≤ val l := by
  obtain ⟨hd, x, r, rfl, hr⟩ := h
  rw [val_cons, List.length_cons, Nat.add_sub_cancel]
  have hx := (hd x (by simp)).1
  have : x ≠ 48 := by
    rcases hr with rfl | hr
    · simp at h2
    · exact hr
  have : x.toNat ≠ 48 := fun hc => this (UInt8.toNat_inj.1 hc)
  have : 1 * 10 ^ r.length ≤ (x.toNat - 48) * 10 ^ r.length := Nat.mul_le_mul_right _ (by omega)
  omega
theorem can_short (a b : List UInt8) (ha : Can a) (hb : Can b) (h : a.length < b.length) : val a < val b := by
  have h0 : 1 ≤ a.length := by obtain ⟨_, x, r, rfl, _⟩ := ha; simp
  have h1 := val_lt a ha.1
  have h2 := can_ge b hb (by omega)
  have : 10 ^ a.length ≤ 10 ^ (b.length - 1) := Nat.pow_le_pow_right (by omega) (by omega)
  omega
theorem can_uniq (a b : List UInt8) (ha : Can a) (hb : Can b) (h : val a = val b) : a = b := by
  rcases Nat.lt_trichotomy a.length b.length with hl | hl | hl
  · have := can_short a b ha hb hl; omega
  · by_cases he : a = b
    · exact he
    · exfalso
      obtain ⟨j, hj⟩ : ∃ j : Nat, a[j]? ≠ b[j]? := by
        by_cases h2 : ∃ j : Nat, a[j]? ≠ b[j]?
        · exact h2
        · exfalso; apply he; apply List.ext_getElem?; intro i
          by_cases h3 : a[i]? = b[i]?
          · exact h3
          · exact absurd ⟨i, h3⟩ h2
      -- the first such place
      have hex : ∃ j : Nat, a[j]? ≠ b[j]? ∧ ∀ i : Nat, i < j → a[i]? = b[i]? := by
        induction j using Nat.strongRecOn with
        | ind j ih =>
          by_cases h3 : ∃ i : Nat, i < j ∧ a[i]? ≠ b[i]?
          · obtain ⟨i, h4, h5⟩ := h3; exact ih i h4 h5
          · exact ⟨j, hj, fun i hi => by
              by_cases h6 : a[i]? = b[i]?
              · exact h6
              · exact absurd ⟨i, hi, h6⟩ h3⟩
      obtain ⟨j, hj, hm⟩ := hex
      have htake : a.take j = b.take j := by
        apply List.ext_getElem?; intro i
        rw [List.getElem?_take, List.getElem?_take]
        by_cases h3 : i < j
        · rw [if_pos h3, if_pos h3]; exact hm i h3
        · rw [if_neg h3, if_neg h3]
      have hlt : j < a.length := by
        by_cases h3 : j < a.length
        · exact h3
        · exfalso; apply hj; rw [List.getElem?_eq_none (by omega), List.getElem?_eq_none (by omega)]
      have hx := List.getElem?_eq_getElem hlt
      have hy := List.getElem?_eq_getElem (show j < b.length by omega)
      rcases Nat.lt_trichotomy (a[j]).toNat (b[j]'(by omega)).toNat with h4 | h4 | h4
      · have := val_part a b j hl ha.1 hb.1 htake _ _ hx hy h4; omega
      · apply hj; rw [hx, hy, UInt8.toNat_inj.1 h4]
      · have := val_part b a j hl.symm hb.1 ha.1 htake.symm _ _ hy hx h4; omega
  · have := can_short b a hb ha hl; omega
/-- The digits behind the zeros ahead. -/
theorem strip_zero (l : List UInt8) (k : Nat) (h : ∀ i, i < k → l[i]? = some 48) : val (l.drop k) = val l := by
  induction k with
  | zero => rw [List.drop_zero]
  | succ k ih =>
    have h1 := ih (fun i hi => h i (by omega))
    obtain ⟨h2, h3⟩ := List.getElem?_eq_some_iff.1 (h k (by omega))
    rw [← h1, ← List.getElem_cons_drop h2, h3, val_cons]
    simp
theorem itoa_of (l : List UInt8) (X : ByteArray) (hX : X.data.toList = l) (hc : Can l) : X = itoa (val l) := by
  apply ext_list; rw [hX]; exact can_uniq _ _ hc (itoa_can _) (by rw [itoa_val])
theorem sig_can (s : ByteArray) (k : Nat) (hk : k < s.size) (hd : Digs s.data.toList) (hx : k = s.size - 1 ∨ s[k] ≠ 48) : Can (s.data.toList.drop k) := by
  refine ⟨fun c hc => hd c (List.mem_of_mem_drop hc), s[k], s.data.toList.drop (k + 1), ?_, ?_⟩
  · rw [← List.getElem_cons_drop (show k < s.data.toList.length by rw [len_list]; exact hk), get_list s k hk]
  · rcases hx with h | h
    · left; apply List.drop_eq_nil_of_le; rw [len_list]; omega
    · exact .inr h
theorem sig_itoa (s : ByteArray) (k : Nat) (hk : k < s.size) (hd : Digs s.data.toList) (hz : ∀ i, i < k → s.data.toList[i]? = some 48) (hx : k = s.size - 1 ∨ s[k] ≠ 48) : s.extract k s.size = itoa (val s.data.toList) := by
  have e : (s.extract k s.size).data.toList = s.data.toList.drop k := by
    rw [Lib.extract_data]; exact List.take_of_length_le (by rw [List.length_drop, len_list]; omega)
  have := itoa_of _ _ e (sig_can s k hk hd hx)
  rw [this, strip_zero _ _ hz]
theorem digs_len (n p : Nat) (h : n < 10 ^ p) : (digs n).length ≤ p := by
  induction n using Nat.strongRecOn generalizing p with
  | ind n ih =>
    by_cases h0 : n = 0
    · subst h0; rw [digs_zero]; simp
    · have := pow_step n p h (by omega)
      rw [digs_pos n h0, List.length_append]
      have := ih (n / 10) (by omega) (p - 1) this.2
      simp; omega
theorem itoa_len (n : Nat) (h : n < 1000000000000000000) : (itoa n).size ≤ 24 := by
  unfold itoa
  by_cases h0 : n = 0
  · subst h0; decide
  · rw [if_neg h0]; exact Nat.le_trans (digs_len n 18 (by omega)) (by omega)
/-- How the model compares two numbers by their digits. -/
theorem cmp_short (a b : Nat) (h : (itoa a).size < (itoa b).size) : a < b := by
  have := can_short _ _ (itoa_can a) (itoa_can b) (by rw [len_list, len_list]; exact h)
  rw [itoa_val, itoa_val] at this; exact this
theorem cmp_part (a b : Nat) (j : Nat) (hl : (itoa a).size = (itoa b).size) (hj : (itoa a).data.toList.take j = (itoa b).data.toList.take j) (ha : j < (itoa a).size) (hb : j < (itoa b).size) (h : (itoa a)[j].toNat < (itoa b)[j].toNat) : a < b := by
  have := val_part _ _ j (by rw [len_list, len_list]; exact hl) (itoa_can a).1 (itoa_can b).1 hj _ _ (get_list? _ _ ha) (get_list? _ _ hb) h
  rw [itoa_val, itoa_val] at this; exact this
theorem cmp_same (a b : Nat) (j : Nat) (hl : (itoa a).size = (itoa b).size) (hj : (itoa a).data.toList.take j = (itoa b).data.toList.take j) (ha : (itoa a).size ≤ j) : a = b := by
  rw [List.take_of_length_le (by rw [len_list]; exact ha), List.take_of_length_le (by rw [len_list]; omega)] at hj
  have := congrArg val hj
  rw [itoa_val, itoa_val] at this; exact this
theorem take_next (a b : ByteArray) (j : Nat) (ha : j < a.size) (hb : j < b.size) (hj : a.data.toList.take j = b.data.toList.take j) (h1 : ¬ a[j].toNat < b[j].toNat) (h2 : ¬ b[j].toNat < a[j].toNat) : a.data.toList.take (j + 1) = b.data.toList.take (j + 1) := by
  rw [take_snoc a j ha, take_snoc b j hb, hj, UInt8.toNat_inj.1 (show a[j].toNat = b[j].toNat by omega)]

/-! ### THE MODEL zzModelRange -/
def MAns (s : ByteArray) (m : Int) (w : World) (e : Ending) (w' : World) : Prop :=
  ((okP s m ∧ e = .returned (.tuple #[.bool true, .string (itoa (val s.data.toList))])) ∨ (¬ okP s m ∧ e = .returned (.tuple #[.bool false, .string { data := #[] }]))) ∧ Below w.heap.size w w'
theorem itoa_at (m : Int) (h0 : 0 ≤ m) (h1 : m ≤ 214748363) (w : World) : Calls Try.prog 8 #[.int .i64 m] w fun e w' => e = .returned (.string (itoa m.toNat)) ∧ Below w.heap.size w w' := by
  obtain ⟨n, rfl⟩ := Int.eq_ofNat_of_zero_le h0
  exact itoa_any n w (by omega)
set_option maxHeartbeats 1000000 in
theorem model_any (s : ByteArray) (m : Int) (w : World) (hs : s.size ≤ 1048576) (hm : m ≤ 214748363) : Calls Try.prog 7 #[.string s, .int .i64 m] w (MAns s m w) := by
  have NO : Hid (∀ w', ¬ okP s m → Below w.heap.size w w' → MAns s m w (.returned (.tuple #[.bool false, .string { data := #[] }])) w') := Lib.hid (fun w' h hb => ⟨.inr ⟨h, rfl⟩, hb⟩)
  have YES : Hid (∀ X w', okP s m → X = itoa (val s.data.toList) → Below w.heap.size w w' → MAns s m w (.returned (.tuple #[.bool true, .string X])) w') := Lib.hid (fun X w' h hx hb => ⟨.inl ⟨h, by rw [hx]⟩, hb⟩)
  generalize hA : MAns s m w = A at NO YES ⊢
  clear hA
  by_cases h0 : s.size = 0
  · have H1 := Lib.hid (show ¬ okP s m from fun h => h.1 h0)
    go_enter Try.func7, Try.ntmps7
    go_wp2
    (try go_ret2)
    exact NO.out _ H1.out (Below.refl _ _)
  have hs0 : 0 < s.size := by omega
  have q0 : decide (s.size = 0) = false := decide_eq_false h0
  clear h0
  go_enter Try.func7, Try.ntmps7
  go_wp2
  go_loop [6] (fun i => ∃ k : Nat, k ≤ s.size ∧ Hid (Digs (s.data.toList.take k)) ∧ i = .int .i64 k) (fun i => s.size - (intOf i).toNat)
  case atStart => exact ⟨0, by omega, Lib.hid (fun c h => by simp at h), rfl⟩
  case round =>
    obtain ⟨k, hk, HD, rfl⟩ := hrel
    by_cases hlt : k < s.size
    · by_cases hd : dig s[k]
      · have hd1 : ¬ (s[k].toNat : Int) < 48 := by have := hd.1; omega
        have hd2 : ¬ 57 < (s[k].toNat : Int) := by have := hd.2; omega
        have HD2 : Hid (Digs (s.data.toList.take (k + 1))) := Lib.hid (by
          rw [take_snoc s k hlt]; intro c hc
          simp only [List.mem_append, List.mem_singleton] at hc
          rcases hc with hc | rfl
          · exact HD.out c hc
          · exact hd)
        clear hd
        go_wp2
        go_round
        case rel => exact ⟨k + 1, by omega, HD2, by go_num⟩
        case measure => simp [intOf]; omega
      · have H1 := Lib.hid (show ¬ okP s m by
          rintro ⟨_, h2, _⟩
          exact hd (h2 _ (List.mem_of_getElem? (get_list? s k hlt))))
        have HB : Hid ((s[k].toNat : Int) < 48 ∨ 57 < (s[k].toNat : Int)) := Lib.hid (by unfold dig at hd; omega)
        clear hd
        by_cases c1 : (s[k].toNat : Int) < 48
        · clear HB
          go_wp2
          (try go_ret2)
          exact NO.out _ H1.out (Below.refl _ _)
        · have c2 : 57 < (s[k].toNat : Int) := by rcases HB.out with h | h; exact absurd h c1; exact h
          clear HB
          go_wp2
          (try go_ret2)
          exact NO.out _ H1.out (Below.refl _ _)
    · have DG : Hid (Digs s.data.toList) := Lib.hid (by have := HD.out; rw [List.take_of_length_le (by rw [len_list]; omega)] at this; exact this)
      clear HD
      by_cases hm0 : m < 0
      · have H1 := Lib.hid (show ¬ okP s m by rintro ⟨_, _, h⟩; omega)
        go_wp2
        (try go_ret2)
        exact NO.out _ H1.out (Below.refl _ _)
      have OK : Hid (okP s m ↔ (val s.data.toList : Int) ≤ m) := Lib.hid ⟨fun h => h.2.2, fun h => ⟨by omega, DG.out, h⟩⟩
      go_wp2
      go_loop [7] (fun i => ∃ z : Nat, z < s.size ∧ Hid (∀ i, i < z → s.data.toList[i]? = some 48) ∧ i = .int .i64 z) (fun i => s.size - (intOf i).toNat)
      case atStart => exact ⟨0, by omega, Lib.hid (fun i hi => by omega), rfl⟩
      case round =>
        obtain ⟨z, hz, HZ, rfl⟩ := hrel
        by_cases hc : z < s.size - 1 ∧ s[z] = 48
        · obtain ⟨hc1, hc2⟩ := hc
          have hc3 : (z : Int) < (s.size : Int) - 1 := by omega
          have hc4 : ((s[z].toNat : Int) == 48) = true := by rw [hc2]; rfl
          have HZ2 := Lib.hid (show ∀ i, i < z + 1 → s.data.toList[i]? = some 48 by
            intro i hi
            by_cases h : i < z
            · exact HZ.out i h
            · have : i = z := by omega
              subst this; rw [get_list? s i hz, hc2])
          clear hc2 HZ
          go_wp2
          go_round
          case rel => exact ⟨z + 1, by omega, HZ2, by go_num⟩
          case measure => simp [intOf]; omega
        · have SX := Lib.hid (sig_itoa s z hz DG.out HZ.out (by
            by_cases h : z < s.size - 1
            · exact .inr (fun h2 => hc ⟨h, h2⟩)
            · exact .inl (by omega)))
          have HC : Hid (z < s.size - 1 → ((s[z].toNat : Int) == 48) = false) := Lib.hid (by
            intro h; rw [beq_eq_false_iff_ne]; intro h2; exact hc ⟨h, (u8_eq s[z] 48 (by omega)).1 h2⟩)
          clear hc HZ
          have key : (z < s.size - 1 ∧ ((s[z].toNat : Int) == 48) = false) ∨ ¬ (z : Int) < (s.size : Int) - 1 := by
            by_cases h : z < s.size - 1
            · exact .inl ⟨h, HC.out h⟩
            · right; omega
          clear HC
          have key2 : (((z : Int) < (s.size : Int) - 1) ∧ ((s[z].toNat : Int) == 48) = false) ∨ ¬ (z : Int) < (s.size : Int) - 1 := by
            rcases key with ⟨h, h2⟩ | h
            · left; exact ⟨by omega, h2⟩
            · exact .inr h
          clear key
          have IT := Lib.hid (itoa_at m (by omega) hm)
          have C1 := Lib.hid (cmp_short (val s.data.toList) m.toNat)
          have C2 := Lib.hid (cmp_short m.toNat (val s.data.toList))
          have C3 := Lib.hid (cmp_part (val s.data.toList) m.toNat)
          have C4 := Lib.hid (cmp_part m.toNat (val s.data.toList))
          have C5 := Lib.hid (cmp_same (val s.data.toList) m.toNat)
          have sx := SX.out
          have sm : (itoa m.toNat).size ≤ 24 := itoa_len _ (by omega)
          have sv : (s.extract z s.size).size ≤ 1048576 := by rw [ByteArray.size_extract]; omega
          rw [sx] at sv
          clear SX
          obtain ⟨v, hv⟩ : ∃ v, v = val s.data.toList := ⟨_, rfl⟩
          rw [← hv] at C1 C2 C3 C4 C5 OK YES sx sv
          have HV := Lib.hid hv; clear hv
          have HM : Hid ((m.toNat : Int) = m) := Lib.hid (by omega)
          generalize m.toNat = mn at *
          generalize itoa v = IV at *
          generalize itoa mn = IM at *
          rcases key2 with ⟨k1, k2⟩ | k1
          all_goals
            by_cases c1 : IV.size < IM.size
            · have H1 := Lib.hid (OK.out.2 (by have h1 := C1.out c1; have h2 := HM.out; omega))
              go_wp2_with (go_at_call 8; refine (IT.out _).mono ?_; rintro e w1 ⟨rfl, hb1⟩)
              (try go_ret2)
              exact YES.out _ _ H1.out rfl hb1
            · by_cases c2 : IM.size < IV.size
              · have H1 := Lib.hid (show ¬ okP s m from fun h => by have h3 := OK.out.1 h; have h1 := C2.out c2; have h2 := HM.out; omega)
                go_wp2_with (go_at_call 8; refine (IT.out _).mono ?_; rintro e w1 ⟨rfl, hb1⟩)
                (try go_ret2)
                exact NO.out _ H1.out hb1
              · have HL : Hid (IV.size = IM.size) := Lib.hid (by omega)
                go_wp2_with (go_at_call 8; refine (IT.out _).mono ?_; rintro e w1 ⟨rfl, hb1⟩)
                clear sx
                have HB1 := Lib.hid hb1; clear hb1
                go_loopw [10] (fun i wr => ∃ j n : Nat, j ≤ IV.size ∧ Hid (IV.data.toList.take j = IM.data.toList.take j) ∧ i = .int .i64 j ∧ wr = w1.drewN n) (fun i _ => IV.size - (intOf i).toNat)
                case atStart => exact ⟨0, 0, by omega, Lib.hid rfl, rfl, rfl⟩
                case round =>
                  obtain ⟨j, n, hj, HJ, rfl, rfl⟩ := hrel
                  by_cases hlt : j < IV.size
                  · have hlm : j < IM.size := by omega
                    by_cases d1 : IV[j].toNat < IM[j].toNat
                    · have H1 := Lib.hid (OK.out.2 (by have h1 := C3.out j HL.out HJ.out hlt hlm d1; have h2 := HM.out; omega))
                      have d2 : decide (IV[j].toNat < IM[j].toNat) = true := decide_eq_true d1
                      clear d1
                      go_wp2
                      go_quiet (fail)
                      go_wp2
                      (try go_ret2)
                      exact YES.out _ _ H1.out rfl (below_draws (below_draws HB1.out _) _)
                    · have d2 : decide (IV[j].toNat < IM[j].toNat) = false := decide_eq_false d1
                      by_cases e1 : IM[j].toNat < IV[j].toNat
                      · have H1 := Lib.hid (show ¬ okP s m from fun h => by have h3 := OK.out.1 h; have h1 := C4.out j HL.out.symm HJ.out.symm hlm hlt e1; have h2 := HM.out; omega)
                        have e2 : decide (IM[j].toNat < IV[j].toNat) = true := decide_eq_true e1
                        clear d1 e1
                        go_wp2
                        go_quiet (fail)
                        go_wp2
                        go_quiet (fail)
                        go_wp2
                        (try go_ret2)
                        exact NO.out _ H1.out (below_draws (below_draws (below_draws HB1.out _) _) _)
                      · have HJ2 := Lib.hid (take_next IV IM j hlt hlm HJ.out d1 e1)
                        have e2 : decide (IM[j].toNat < IV[j].toNat) = false := decide_eq_false e1
                        clear d1 e1
                        go_wp2
                        go_quiet (fail)
                        go_wp2
                        go_quiet (fail)
                        go_wp2
                        go_roundw
                        case rel => exact ⟨j + 1, _, by omega, HJ2, by go_num, rfl⟩
                        case measure => simp [intOf]; omega
                  · have H1 := Lib.hid (OK.out.2 (by have h1 := C5.out j HL.out HJ.out (by omega); have h2 := HM.out; omega))
                    go_wp2
                    (try go_ret2)
                    exact YES.out _ _ H1.out rfl (below_draws HB1.out _)

/-! ### THE LAW -/
theorem wrap6 (s : ByteArray) (m : Int) (a b : Value) (w : World) (h : ∀ w, Calls Try.prog 16 #[.string s, .int .i64 m] w fun e w' => e = .returned (.tuple #[a, b]) ∧ Below w.heap.size w w') :
    Calls Try.prog 6 #[.string s, .int .i64 m] w fun e w' => e = .returned (.tuple #[a, b]) ∧ Below w.heap.size w w' := by
  have H := Lib.hid h; clear h
  go_enter Try.func6, Try.ntmps6
  go_wp2_with fail
  refine (H.out _).mono ?_
  rintro e w' ⟨rfl, hb⟩
  go_wp2
  go_ret2
  exact ⟨rfl, hb⟩
theorem walk (a0 : ByteArray) (a1 : Int) (w : World) (w0 : a0.size ≤ maxLen) (w1 : (Lit.int .i64 a1).wf = true) :
    Calls Try.prog 3 #[.string a0, .int .i64 a1] w fun e w' => e = .returned (.bool true) ∧ Below w.heap.size w w' := by
  unfold maxLen at w0
  have b1 := bounds_i64 w1
  clear w1
  by_cases hz : a0.size ≤ 1048576
  · by_cases hm : a1 ≤ 214748363
    · by_cases ok : okP a0 a1
      · have P1 := Lib.hid (fun w => wrap6 a0 a1 _ _ w (fun w => (pri_any a0 a1 w (by omega) (by omega) (by omega)).mono (fun e w' h => show e = .returned (.tuple #[.int .i64 (val a0.data.toList), .bool true]) ∧ Below w.heap.size w w' by
          rcases h with ⟨⟨_, h⟩ | ⟨h, _⟩, hb⟩
          · exact ⟨h, hb⟩
          · exact absurd ok h)))
        have P2 := Lib.hid (fun w => (model_any a0 a1 w hz hm).mono (fun e w' h => show e = .returned (.tuple #[.bool true, .string (itoa (val a0.data.toList))]) ∧ Below w.heap.size w w' by
          rcases h with ⟨⟨_, h⟩ | ⟨h, _⟩, hb⟩
          · exact ⟨h, hb⟩
          · exact absurd ok h))
        have hv := ok.2.2
        have IT := Lib.hid (fun w => itoa_any (val a0.data.toList) w (by omega))
        clear ok
        generalize val a0.data.toList = v at *
        have qq : ((itoa v).toList == (itoa v).toList) = true := by simp
        generalize itoa v = IV at *
        go_enter Try.func3, Try.ntmps3
        go_wp2_with (first | (go_at_call 5; go_in) | fail)
        refine (P1.out _).mono ?_
        rintro e w1 ⟨rfl, hb1⟩
        go_wp2_with fail
        refine (P2.out _).mono ?_
        rintro e w2 ⟨rfl, hb2⟩
        go_wp2_with fail
        refine (IT.out _).mono ?_
        rintro e w3 ⟨rfl, hb3⟩
        go_wp2
        go_ret
        have g1 := below_join hb1 hb1.size hb2
        exact ⟨rfl, below_join g1 g1.size hb3⟩
      · have P1 := Lib.hid (fun w => wrap6 a0 a1 _ _ w (fun w => (pri_any a0 a1 w (by omega) (by omega) (by omega)).mono (fun e w' h => show e = .returned (.tuple #[.int .i64 0, .bool false]) ∧ Below w.heap.size w w' by
          rcases h with ⟨⟨h, _⟩ | ⟨_, h⟩, hb⟩
          · exact absurd h ok
          · exact ⟨h, hb⟩)))
        have P2 := Lib.hid (fun w => (model_any a0 a1 w hz hm).mono (fun e w' h => show e = .returned (.tuple #[.bool false, .string { data := #[] }]) ∧ Below w.heap.size w w' by
          rcases h with ⟨⟨h, _⟩ | ⟨_, h⟩, hb⟩
          · exact absurd h ok
          · exact ⟨h, hb⟩))
        clear ok
        go_enter Try.func3, Try.ntmps3
        go_wp2_with (first | (go_at_call 5; go_in) | fail)
        refine (P1.out _).mono ?_
        rintro e w1 ⟨rfl, hb1⟩
        go_wp2_with fail
        refine (P2.out _).mono ?_
        rintro e w2 ⟨rfl, hb2⟩
        go_wp2
        go_ret
        exact ⟨rfl, below_join hb1 hb1.size hb2⟩
    · go_enter Try.func3, Try.ntmps3
      go_wp2_with (go_at_call 5; go_in)
      all_goals (go_ret; exact ⟨rfl, Below.refl _ _⟩)
  · go_enter Try.func3, Try.ntmps3
    go_wp2_with (go_at_call 5; go_in)
    all_goals (go_ret; exact ⟨rfl, Below.refl _ _⟩)
end Go.Proofs.Ytdpmblhimfebcaa.fnParseRangeIntModel
