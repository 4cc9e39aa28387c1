/- The walk of the law FnParseDataURLRoundTrip: for all strings m, d and each flag b it returns true. No condition. -/
import Derived.Test.YtejamkblebdheaaUrl
namespace Go.Proofs.Ytejamkblebdheaa.fnParseDataURLRoundTrip
open Go.ChangeShapes Go.WideShapes Go.ChangeAt Go.RowKit Go.Proofs.Ytejamkblebdheaa.Base Go.Proofs.Ytejamkblebdheaa.Url
set_option linter.unusedVariables false

/-! ### PLAIN -/
theorem idx_of (l p r : List UInt8) (c : UInt8) (h : l = p ++ c :: r) (hp : c ∉ p) : Lib.indexByte l c = p.length := by
  subst h
  rcases idx c (p ++ c :: r) with ⟨_, _, h3⟩ | ⟨o, h1, h2, h3, _⟩
  · exact absurd (by simp) h3
  · rw [cut_append _ hp] at h3
    have e : cutAt c (c :: r) = [] := by simp [cutAt]
    rw [e, List.append_nil] at h3
    have := congrArg List.length h3
    rw [List.length_take_of_le (Nat.le_of_lt h2)] at this
    rw [h1, this]
theorem part (u m d : ByteArray) (x : List UInt8) (hu : u.data.toList = [100, 97, 116, 97, 58] ++ (m.data.toList ++ x) ++ 44 :: d.data.toList) :
    List.take (5 + (m.size + x.length) - 5) (List.drop 5 u.data.toList) = m.data.toList ++ x := by
  rw [hu]
  have e : 5 + (m.size + x.length) - 5 = (m.data.toList ++ x).length := by simp
  rw [e, List.append_assoc]
  show List.take _ ((m.data.toList ++ x) ++ (44 :: d.data.toList)) = _
  rw [List.take_left]
theorem tail_of (u m d : ByteArray) (x : List UInt8) (hu : u.data.toList = [100, 97, 116, 97, 58] ++ (m.data.toList ++ x) ++ 44 :: d.data.toList) :
    u.extract (5 + (m.size + x.length) + 1) u.size = d := by
  apply ext_list
  rw [Lib.extract_data, hu]
  have e : 5 + (m.size + x.length) + 1 = ([100, 97, 116, 97, 58] ++ (m.data.toList ++ x) ++ [44]).length := by simp; omega
  have e2 : [100, 97, 116, 97, 58] ++ (m.data.toList ++ x) ++ 44 :: d.data.toList = ([100, 97, 116, 97, 58] ++ (m.data.toList ++ x) ++ [44]) ++ d.data.toList := by simp
  have hz : u.size = ([100, 97, 116, 97, 58] ++ (m.data.toList ++ x) ++ [44]).length + d.data.toList.length := by
    have := congrArg List.length hu
    rw [len_list] at this; rw [this]; simp; omega
  rw [hz, e, e2, List.drop_left]
  exact List.take_of_length_le (by simp)
theorem size_of (u m d : ByteArray) (x : List UInt8) (hu : u.data.toList = [100, 97, 116, 97, 58] ++ (m.data.toList ++ x) ++ 44 :: d.data.toList) : u.size = 5 + (m.size + x.length) + 1 + d.size := by
  have := congrArg List.length hu
  rw [len_list] at this; rw [this]; simp; omega
theorem pre_of (u m d : ByteArray) (x : List UInt8) (hu : u.data.toList = [100, 97, 116, 97, 58] ++ (m.data.toList ++ x) ++ 44 :: d.data.toList) : Lib.hasPrefix u.data.toList [100, 97, 116, 97, 58] = true := by
  unfold Lib.hasPrefix; rw [List.isPrefixOf_iff_prefix, hu, List.append_assoc]; exact List.prefix_append _ _

/-! ### THE PARSE OF A JOINED URL -/
theorem round_plain (u m d : ByteArray) (hu : u.data.toList = [100, 97, 116, 97, 58] ++ (m.data.toList ++ []) ++ 44 :: d.data.toList) (h44 : (44 : UInt8) ∉ m.data.toList) (hz : m.size ≤ 524288) (hd : d.size ≤ 524288)
    (hx : Lib.hasSuffix m.data.toList [59, 98, 97, 115, 101, 54, 52] = false) (w : World) :
    Calls Try.prog 6 #[.string u] w fun e w' => e = .returned (.tuple #[.agg #[.string m, .string d, .bool false], .bool true]) ∧ Below w.heap.size w w' := by
  have hsz := size_of u m d [] hu
  have hi := idx_of _ _ _ 44 hu (by simp [h44])
  have hl : ([100, 97, 116, 97, 58] ++ (m.data.toList ++ [])).length = 5 + (m.size + ([] : List UInt8).length) := by simp; omega
  rw [hl] at hi
  have hpt := part u m d [] hu
  have htl := tail_of u m d [] hu
  have hm : u.extract 5 (5 + (m.size + ([] : List UInt8).length)) = m := by
    apply ext_list; rw [Lib.extract_data, hpt]; simp
  have hc := parse_plain u w (by simp at hsz; omega) (pre_of u m d [] hu) (5 + (m.size + ([] : List UInt8).length)) hi (by omega) (by omega) (by rw [hpt]; simpa using hx)
  rw [hm, htl] at hc
  exact hc
theorem round_b64 (u m d : ByteArray) (hu : u.data.toList = [100, 97, 116, 97, 58] ++ (m.data.toList ++ [59, 98, 97, 115, 101, 54, 52]) ++ 44 :: d.data.toList) (h44 : (44 : UInt8) ∉ m.data.toList) (hz : m.size ≤ 524288) (hd : d.size ≤ 524288) (w : World) :
    Calls Try.prog 6 #[.string u] w fun e w' => e = .returned (.tuple #[.agg #[.string m, .string d, .bool true], .bool true]) ∧ Below w.heap.size w w' := by
  have hsz := size_of u m d _ hu
  have hi := idx_of _ _ _ 44 hu (by simp [h44])
  have hl : ([100, 97, 116, 97, 58] ++ (m.data.toList ++ [59, 98, 97, 115, 101, 54, 52])).length = 5 + (m.size + ([59, 98, 97, 115, 101, 54, 52] : List UInt8).length) := by simp; omega
  rw [hl] at hi
  have hpt := part u m d _ hu
  have htl := tail_of u m d _ hu
  simp only [List.length_cons, List.length_nil] at hsz hi hpt htl
  have hmin : min (5 + (m.size + (0 + 1 + 1 + 1 + 1 + 1 + 1 + 1))) u.size - 5 - 7 = m.size := by omega
  have hm : (u.extract 5 (5 + (m.size + (0 + 1 + 1 + 1 + 1 + 1 + 1 + 1)))).extract 0 (min (5 + (m.size + (0 + 1 + 1 + 1 + 1 + 1 + 1 + 1))) u.size - 5 - 7) = m := by
    rw [hmin]
    apply ext_list
    rw [Lib.extract_data, Lib.extract_data, hpt, List.drop_zero, Nat.sub_zero, ← len_list m, List.take_left]
  have hc := parse_b64 u w (by omega) (pre_of u m d _ hu) (5 + (m.size + (0 + 1 + 1 + 1 + 1 + 1 + 1 + 1))) hi (by omega) (by omega) (by rw [hpt]; unfold Lib.hasSuffix; rw [List.isSuffixOf_iff_suffix]; exact List.suffix_append _ _)
  rw [hm, htl] at hc
  exact hc

/-! ### THE MODELS -/
theorem not_snoc (s : ByteArray) (k : Nat) (h : k < s.size) (hk : (44 : UInt8) ∉ s.data.toList.take k) (hc : ¬ (s[k].toNat : Int) = 44) : (44 : UInt8) ∉ s.data.toList.take (k + 1) := by
  rw [List.take_succ_eq_append_getElem (by simpa using h), get_list s k h]
  have e := u8_eq s[k] 44 (by omega)
  simp only [List.mem_append, List.mem_singleton, not_or]
  exact ⟨hk, fun h => hc (e.2 h.symm)⟩
theorem has_any (s : ByteArray) (w : World) (hs : s.size ≤ 9223372036854775807) :
    Calls Try.prog 11 #[.string s, .int .u8 44] w fun e w' => e = .returned (.bool (decide ((44 : UInt8) ∈ s.data.toList))) ∧ w = w' := by
  obtain ⟨b, hb⟩ : ∃ b, b = decide ((44 : UInt8) ∈ s.data.toList) := ⟨_, rfl⟩
  rw [← hb]
  have HB := Lib.hid hb; clear hb
  go_enter Try.func11, Try.ntmps11
  go_wp2
  go_loop [5] (fun i => ∃ k : Nat, k ≤ s.size ∧ Hid ((44 : UInt8) ∉ s.data.toList.take k) ∧ i = .int .i64 k) (fun i => s.size - (intOf i).toNat)
  case atStart => exact ⟨0, by omega, Lib.hid (by simp), rfl⟩
  case round =>
    obtain ⟨k, hk, HK, rfl⟩ := hrel
    by_cases hlt : k < s.size
    · by_cases hc : (s[k].toNat : Int) = 44
      · have hc1 : ((s[k].toNat : Int) == 44) = true := by rw [beq_iff_eq]; exact hc
        have H1 := Lib.hid (show (44 : UInt8) ∈ s.data.toList by
          have e := (u8_eq s[k] 44 (by omega)).1 hc
          have := List.mem_of_getElem? (get_list? s k hlt)
          rw [e] at this; exact this)
        clear hc
        go_wp2
        go_ret
        exact ⟨ret_bool (by rw [HB.out]; simp [H1.out]), rfl⟩
      · have hc1 : ((s[k].toNat : Int) == 44) = false := by rw [beq_eq_false_iff_ne]; exact hc
        have HK2 := Lib.hid (not_snoc s k hlt HK.out hc)
        clear hc
        go_wp2
        go_round
        case rel => exact ⟨k + 1, by omega, HK2, by go_num⟩
        case measure => simp [intOf]; omega
    · have H1 := Lib.hid (show (44 : UInt8) ∉ s.data.toList by
        have e := HK.out
        rw [List.take_of_length_le (by rw [len_list]; omega)] at e; exact e)
      go_wp2
      go_ret
      exact ⟨ret_bool (by rw [HB.out]; simp [H1.out]), rfl⟩
theorem suf_short (s p : ByteArray) (h : s.size < p.size) : Lib.hasSuffix s.data.toList p.data.toList = false := by
  unfold Lib.hasSuffix
  rw [Bool.eq_false_iff]; intro hc
  have := (List.isSuffixOf_iff_suffix.1 hc).length_le
  rw [len_list, len_list] at this; omega
theorem suf_all (s p : ByteArray) (h : ¬ s.size < p.size) (hk : (s.data.toList.drop (s.size - p.size)).take p.size = p.data.toList.take p.size) : Lib.hasSuffix s.data.toList p.data.toList = true := by
  unfold Lib.hasSuffix
  rw [List.isSuffixOf_iff_suffix, List.suffix_iff_eq_drop, len_list, len_list]
  rw [List.take_of_length_le (by rw [List.length_drop, len_list]; omega), List.take_of_length_le (by rw [len_list]; omega)] at hk
  exact hk.symm
theorem suf_get (s p : ByteArray) (k : Nat) (h : ¬ s.size < p.size) (hp : k < p.size) (hs : s.size - p.size + k < s.size) : (s.data.toList.drop (s.size - p.size))[k]? = some s[s.size - p.size + k] := by
  rw [List.getElem?_drop, get_list? s _ hs]
theorem suf_part (s p : ByteArray) (k : Nat) (h : ¬ s.size < p.size) (hp : k < p.size) (hs : s.size - p.size + k < s.size) (he : ¬ (s[s.size - p.size + k].toNat : Int) = p[k].toNat) : Lib.hasSuffix s.data.toList p.data.toList = false := by
  unfold Lib.hasSuffix
  rw [Bool.eq_false_iff]; intro hc
  have h1 := List.suffix_iff_eq_drop.1 (List.isSuffixOf_iff_suffix.1 hc)
  rw [len_list, len_list] at h1
  apply he
  have h2 := suf_get s p k h hp hs
  rw [← h1, get_list? p k hp] at h2
  simp at h2; rw [h2]
theorem suf_step (s p : ByteArray) (k : Nat) (h : ¬ s.size < p.size) (hp : k < p.size) (hs : s.size - p.size + k < s.size) (hk : (s.data.toList.drop (s.size - p.size)).take k = p.data.toList.take k) (he : (s[s.size - p.size + k].toNat : Int) = p[k].toNat) :
    (s.data.toList.drop (s.size - p.size)).take (k + 1) = p.data.toList.take (k + 1) := by
  rw [List.take_add_one, List.take_add_one, hk, suf_get s p k h hp hs, get_list? p k hp, UInt8.toNat_inj.1 (show s[s.size - p.size + k].toNat = p[k].toNat by omega)]
theorem suf_any (s p : ByteArray) (w : World) (hs : s.size ≤ 9223372036854775807) (hp : p.size ≤ 9223372036854775807) :
    Calls Try.prog 12 #[.string s, .string p] w fun e w' => e = .returned (.bool (Lib.hasSuffix s.data.toList p.data.toList)) ∧ ∃ n, w' = w.drewN n := by
  obtain ⟨b, hb⟩ : ∃ b, b = Lib.hasSuffix s.data.toList p.data.toList := ⟨_, rfl⟩
  rw [← hb]
  have HB := Lib.hid hb; clear hb
  by_cases h : s.size < p.size
  · have H1 := Lib.hid (suf_short s p h)
    go_enter Try.func12, Try.ntmps12
    go_wp2
    go_ret
    exact ⟨ret_bool (by rw [HB.out, H1.out]), 0, rfl⟩
  · obtain ⟨off, hoff⟩ : ∃ off, off = s.size - p.size := ⟨_, rfl⟩
    have eo : ((s.size : Int) - p.size) = (off : Int) := by omega
    have hos : off + p.size ≤ s.size := by omega
    have HO := Lib.hid hoff; clear hoff
    have EO := Lib.hid eo; clear eo
    have HH := Lib.hid h
    go_enter Try.func12, Try.ntmps12
    go_wp2
    rw [EO.out]
    go_loopw [6] (fun i wr => ∃ k n : Nat, k ≤ p.size ∧ Hid ((s.data.toList.drop (s.size - p.size)).take k = p.data.toList.take k) ∧ i = .int .i64 k ∧ wr = w.drewN n) (fun i _ => p.size - (intOf i).toNat)
    case atStart => exact ⟨0, 0, by omega, Lib.hid (by simp), rfl, rfl⟩
    case round =>
      obtain ⟨k, n, hk, HK, rfl, rfl⟩ := hrel
      by_cases hlt : k < p.size
      · have hls : off + k < s.size := by omega
        by_cases he : (s[off + k].toNat : Int) = p[k].toNat
        · have he1 : ((s[off + k].toNat : Int) != p[k].toNat) = false := by rw [bne_eq_false_iff_eq]; exact he
          have HK2 := Lib.hid (suf_step s p k HH.out hlt (by have := HO.out; omega) HK.out (by have e := HO.out; subst e; exact he))
          clear he
          have x1 : IntKind.i64.wrap ((off : Int) + k) = (off : Int) + k := IntWalk.i64_in _ (by omega)
          have x2 : 0 ≤ (off : Int) + k := by omega
          have x4 : (off : Int) + k < s.size := by omega
          have x3 : ((off : Int) + k).toNat = off + k := by omega
          go_wp2
          go_quiet (fail)
          clear x1
          go_wp2
          go_roundw
          case rel => exact ⟨k + 1, _, by omega, HK2, by go_num, rfl⟩
          case measure => simp [intOf]; omega
        · have he1 : ((s[off + k].toNat : Int) != p[k].toNat) = true := by rw [bne_iff_ne]; exact he
          have H1 := Lib.hid (suf_part s p k HH.out hlt (by have := HO.out; omega) (by have e := HO.out; subst e; exact he))
          clear he
          have x1 : IntKind.i64.wrap ((off : Int) + k) = (off : Int) + k := IntWalk.i64_in _ (by omega)
          have x2 : 0 ≤ (off : Int) + k := by omega
          have x4 : (off : Int) + k < s.size := by omega
          have x3 : ((off : Int) + k).toNat = off + k := by omega
          go_wp2
          go_quiet (fail)
          clear x1
          go_wp2
          go_ret
          exact ⟨ret_bool (by rw [HB.out, H1.out]), _, World.drewN_drewN _ _ _⟩
      · have H1 := Lib.hid (suf_all s p HH.out (by have e : k = p.size := by omega
                                                   subst e; exact HK.out))
        go_wp2
        go_ret
        exact ⟨ret_bool (by rw [HB.out, H1.out]), _, rfl⟩

/-! ### THE LAW -/
theorem walk (a0 : ByteArray) (a1 : ByteArray) (a2 : Bool) (w : World) (w0 : a0.size ≤ maxLen) (w1 : a1.size ≤ maxLen) :
    Calls Try.prog 4 #[.string a0, .string a1, .bool a2] w fun e w' => e = .returned (.bool true) ∧ Below w.heap.size w w' := by
  unfold maxLen at w0 w1
  by_cases hz : a0.size ≤ 524288 ∧ a1.size ≤ 524288
  · obtain ⟨hz, hd⟩ := hz
    have Z0 := Lib.hid (show a0.size ≤ 9223372036854775807 by omega)
    by_cases h44 : (44 : UInt8) ∈ a0.data.toList
    · go_enter Try.func4, Try.ntmps4
      go_wp2_with (first | (go_at_call 10; go_in) | (go_at_call 11; refine (has_any _ _ Z0.out).mono ?_; rintro e w' ⟨rfl, rfl⟩))
      all_goals (go_ret; exact ⟨rfl, Below.refl _ _⟩)
    · cases a2
      · by_cases hsx : Lib.hasSuffix a0.data.toList [59, 98, 97, 115, 101, 54, 52] = true
        · go_enter Try.func4, Try.ntmps4
          go_wp2_with (first | (go_at_call 10; go_in) | (go_at_call 11; refine (has_any _ _ Z0.out).mono ?_; rintro e w' ⟨rfl, rfl⟩) | (go_at_call 12; refine (suf_any _ _ _ Z0.out (by decide)).mono ?_; rintro e w' ⟨rfl, n, rfl⟩))
          all_goals (go_ret; exact ⟨rfl, by first | exact Below.refl _ _ | exact below_draws (Below.refl _ _) _⟩)
        · rw [Bool.not_eq_true] at hsx
          have hu : (({ data := #[100, 97, 116, 97, 58] } : ByteArray) ++ a0 ++ ({ data := #[44] } : ByteArray) ++ a1).data.toList = [100, 97, 116, 97, 58] ++ (a0.data.toList ++ []) ++ 44 :: a1.data.toList := by
            rw [list_append, list_append, list_append]; simp
          have HR := Lib.hid (round_plain _ a0 a1 hu h44 hz hd hsx); clear hu
          go_enter Try.func4, Try.ntmps4
          go_wp2_with (first | (go_at_call 10; go_in) | (go_at_call 11; refine (has_any _ _ Z0.out).mono ?_; rintro e w' ⟨rfl, rfl⟩) | (go_at_call 12; refine (suf_any _ _ _ Z0.out (by decide)).mono ?_; rintro e w' ⟨rfl, n, rfl⟩) | (go_at_call 6; fail))
          refine (HR.out _).mono ?_
          rintro e w1 ⟨rfl, hb1⟩
          go_wp2_with fail
          refine (fields_any _ _ _ _).mono ?_
          rintro e w2 ⟨rfl, hb2⟩
          have hbz := hb1.size
          go_wp2
          go_ret
          refine ⟨rfl, ?_⟩
          have hB : Below w.heap.size w (w.drewN n) := below_draws (Below.refl _ _) _
          have hB1 : Below w.heap.size w w1 := below_join hB (by simp) hb1
          exact below_join (hB1.alloc hB1.size _) (by have := hB1.size; simp; omega) hb2
      · have hu : (({ data := #[100, 97, 116, 97, 58] } : ByteArray) ++ a0 ++ ({ data := #[59, 98, 97, 115, 101, 54, 52] } : ByteArray) ++ ({ data := #[44] } : ByteArray) ++ a1).data.toList = [100, 97, 116, 97, 58] ++ (a0.data.toList ++ [59, 98, 97, 115, 101, 54, 52]) ++ 44 :: a1.data.toList := by
          rw [list_append, list_append, list_append, list_append]; simp
        have HR := Lib.hid (round_b64 _ a0 a1 hu h44 hz hd); clear hu
        go_enter Try.func4, Try.ntmps4
        go_wp2_with (first | (go_at_call 10; go_in) | (go_at_call 11; refine (has_any _ _ Z0.out).mono ?_; rintro e w' ⟨rfl, rfl⟩) | (go_at_call 6; fail))
        refine (HR.out _).mono ?_
        rintro e w1 ⟨rfl, hb1⟩
        go_wp2_with fail
        refine (fields_any _ _ _ _).mono ?_
        rintro e w2 ⟨rfl, hb2⟩
        have hbz := hb1.size
        go_wp2
        go_ret
        refine ⟨rfl, ?_⟩
        exact below_join (hb1.alloc hb1.size _) (by simp; omega) hb2
  · by_cases h0 : a0.size ≤ 524288
    · have h1 : 524288 < a1.size := by omega
      clear hz
      go_enter Try.func4, Try.ntmps4
      go_wp2_with (go_at_call 10; go_in)
      all_goals (go_ret; exact ⟨rfl, Below.refl _ _⟩)
    · clear hz
      go_enter Try.func4, Try.ntmps4
      go_wp2_with (go_at_call 10; go_in)
      all_goals (go_ret; exact ⟨rfl, Below.refl _ _⟩)
end Go.Proofs.Ytejamkblebdheaa.fnParseDataURLRoundTrip
