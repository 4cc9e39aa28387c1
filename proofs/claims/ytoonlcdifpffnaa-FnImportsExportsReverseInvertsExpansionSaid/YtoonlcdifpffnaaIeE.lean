/- A pattern target and a prefix target that hold the query. Conditions: no star besides the one; lengths. -/
import Derived.Test.YtoonlcdifpffnaaIeD
import Derived.Lib.IndexLaws
namespace Go.Proofs.Ytoonlcdifpffnaa.IeE
open Go.RowKit Go.Deep Go.Proofs.Ytoonlcdifpffnaa.Base Go.Proofs.Ytoonlcdifpffnaa.Sls Go.Proofs.Ytoonlcdifpffnaa.IeA Go.Proofs.Ytoonlcdifpffnaa.IeB Go.Proofs.Ytoonlcdifpffnaa.IeC Go.Proofs.Ytoonlcdifpffnaa.IeD
set_option linter.unusedVariables false
theorem idx (c : UInt8) : ∀ l : List UInt8, (Lib.indexByte l c = -1 ∧ l.count c = 0) ∨ ∃ o : Nat, Lib.indexByte l c = o ∧ o < l.length ∧ (l.take o).count c = 0 ∧ l[o]? = some c
  | [] => .inl ⟨rfl, rfl⟩
  | b :: l => by
    by_cases h : b = c
    · subst h
      right
      exact ⟨0, by simp [Lib.indexByte], by simp, by simp, by simp⟩
    · have hb : (b == c) = false := by simpa using h
      rcases idx c l with ⟨h1, h2⟩ | ⟨o, h1, h2, h3, h4⟩
      · left
        exact ⟨by simp [Lib.indexByte, hb, h1], by rw [List.count_cons, hb, h2]; rfl⟩
      · right
        refine ⟨o + 1, ?_, by simp; omega, ?_, by simpa using h4⟩
        · simp only [Lib.indexByte, hb, h1]
          rw [if_neg (by decide), if_neg (by simp)]; rfl
        · rw [List.take_succ_cons, List.count_cons, hb, h3]; rfl
theorem count_app (a b : List UInt8) (c : UInt8) : (a ++ b).count c = a.count c + b.count c := List.count_append
theorem idx_at (p t : List UInt8) (h : p.count 42 = 0) : Lib.indexByte (p ++ 42 :: t) 42 = (p.length : Int) := by
  rcases idx 42 (p ++ 42 :: t) with ⟨_, h2⟩ | ⟨o, h1, h2, h3, h4⟩
  · rw [List.count_append, List.count_cons_self] at h2; omega
  · rw [h1]
    rcases Nat.lt_trichotomy o p.length with g | g | g
    · rw [List.getElem?_append_left g] at h4
      have := List.mem_of_getElem? h4
      have := List.count_pos_iff.2 this
      omega
    · rw [g]
    · exfalso
      have e : (p ++ 42 :: t).take o = p ++ 42 :: (t.take (o - p.length - 1)) := by
        rw [List.take_append, List.take_of_length_le (Nat.le_of_lt g)]
        obtain ⟨k, hk⟩ : ∃ k, o - p.length = k + 1 := ⟨o - p.length - 1, by omega⟩
        rw [hk, List.take_succ_cons, Nat.add_sub_cancel]
      rw [e, List.count_append, List.count_cons_self] at h3; omega
theorem idx_no (t : List UInt8) (h : t.count 42 = 0) : decide (0 ≤ Lib.indexByte t 42) = false := by
  rcases idx 42 t with ⟨h1, _⟩ | ⟨o, h1, h2, h3, h4⟩
  · rw [h1]; rfl
  · have := List.count_pos_iff.2 (List.mem_of_getElem? h4); omega
theorem trim_star (kb : ByteArray) : (⟨(Lib.trimSuffix (kb ++ star).data.toList star.data.toList).toArray⟩ : ByteArray) = kb := by
  apply ext_list
  rw [list_append]
  unfold Lib.trimSuffix Lib.hasSuffix
  rw [if_pos (by rw [List.isSuffixOf_iff_suffix]; exact ⟨_, rfl⟩)]
  simp
theorem ext_pre (a b : ByteArray) : (a ++ b).extract 0 a.size = a := by
  apply ext_list; rw [Lib.extract_data, list_append]; simp
theorem ext_post (a b : ByteArray) : (a ++ b).extract a.size (a ++ b).size = b := by
  apply ext_list; rw [Lib.extract_data, list_append]; simp [List.take_of_length_le, ByteArray.size_append]
theorem pre_app (a b : ByteArray) : Lib.hasPrefix (a ++ b).data.toList a.data.toList = true := by
  rw [list_append]; unfold Lib.hasPrefix; rw [List.isPrefixOf_iff_prefix]; exact ⟨_, rfl⟩
theorem suf_app (a b : ByteArray) : Lib.hasSuffix (a ++ b).data.toList b.data.toList = true := by
  rw [list_append]; unfold Lib.hasSuffix; rw [List.isSuffixOf_iff_suffix]; exact ⟨_, rfl⟩
set_option maxRecDepth 20000 in
set_option maxHeartbeats 2000000 in
theorem pat19 (rq : Array Value) (q key s kb pre suf sub : ByteArray) (st ln : Int) (w : World) (hq : q = pre ++ (sub ++ suf)) (hs : s = pre ++ (star ++ suf)) (hk : key = kb ++ star) (c1 : cntB 42 pre = 0) (c2 : cntB 42 suf = 0) (z1 : pre.size ≤ 1048576) (z2 : suf.size ≤ 1048576) (z3 : sub.size ≤ 1048576) (z4 : kb.size ≤ 1048576) :
    Calls Try.prog 19 #[.agg rq, .string q, .string key, .agg #[.string s, .slice none 0 0, .slice none 0 0, .slice none 0 0, .int .i32 st, .int .i32 ln, .int .u8 1], .int .u8 1, .map none] w fun e w' => e = .returned (.tuple #[.bool true, .string (kb ++ sub), .agg #[.int .i32 st, .int .i32 ln]]) ∧ Below w.heap.size w w' := by
  have i1 : Lib.indexByte s.data.toList 42 = (pre.size : Int) := by
    rw [hs, list_append, list_append]
    have := idx_at pre.data.toList suf.data.toList c1
    rw [len_list] at this
    exact this
  have i2 := idx_no suf.data.toList c2
  have t1 := trim_star kb
  rw [← hk] at t1
  obtain ⟨r, hr⟩ : ∃ r, r = sub ++ suf := ⟨_, rfl⟩
  have p1 := pre_app pre r
  have x1 := ext_pre pre (star ++ suf)
  rw [← hs] at x1
  have x2 : s.extract (pre.size + 1) s.size = suf := by
    have := ext_post (pre ++ star) suf
    rw [ByteArray.append_assoc, ← hs, ByteArray.size_append] at this
    exact this
  have x3 := ext_post pre r
  rw [← hr] at hq
  rw [← hq] at x3 p1
  have x4 := suf_app sub suf
  have x5 := ext_pre sub suf
  rw [← hr] at x4 x5
  have y1 : s.size = pre.size + 1 + suf.size := by rw [hs, ByteArray.size_append, ByteArray.size_append]; show _ + (1 + _) = _; omega
  have y2 : q.size = pre.size + r.size := by rw [hq, ByteArray.size_append]
  have y3 : r.size = sub.size + suf.size := by rw [hr, ByteArray.size_append]
  have y4 : key.size = kb.size + 1 := by rw [hk, ByteArray.size_append]; rfl
  have C22 := Lib.hid (fun w' => Try.strings_IndexByte s 42 w')
  have C23 := Lib.hid (fun w' => Try.strings_TrimSuffix key star w' (by omega))
  have C24 := Lib.hid (fun w' => Try.strings_ContainsRune_ascii suf 42 w' (by decide) (by decide))
  have C21 := Lib.hid (fun w' => Try.strings_HasPrefix q pre w')
  have C18 := Lib.hid (fun w' => Try.strings_HasSuffix r suf w' (by omega))
  rw [show ((42 : Int).toNat.toUInt8 : UInt8) = 42 from rfl, i1] at C22
  rw [t1] at C23
  rw [show ((42 : Int).toNat.toUInt8 : UInt8) = 42 from rfl, i2] at C24
  rw [p1] at C21
  rw [x4] at C18
  have x5' : r.extract 0 (r.size - suf.size) = sub := by rw [y3, Nat.add_sub_cancel]; exact x5
  have Y := Lib.hid (And.intro y1 (And.intro y2 y3))
  have w1 : pre.size ≤ s.size := by omega
  have w2 : pre.size + 1 ≤ s.size := by omega
  have w3 : pre.size ≤ q.size := by omega
  have w4 : suf.size ≤ r.size := by omega
  have w5 : s.size ≤ 4194304 := by omega
  have w6 : q.size ≤ 4194304 := by omega
  have w7 : r.size ≤ 4194304 := by omega
  clear i1 i2 t1 p1 x4 x5 hq hs hk hr c1 c2 y1 y2 y3 y4
  go_enter Try.func19, Try.ntmps19
  go_wp2_with (first | (go_at_call 22; refine (C22.out _).mono ?_; rintro e w7 ⟨rfl, rfl⟩) | (go_at_call 23; refine (C23.out _).mono ?_; rintro e w7 ⟨rfl, rfl⟩) | (go_at_call 24; refine (C24.out _).mono ?_; rintro e w7 ⟨rfl, rfl⟩) | (go_at_call 21; refine (C21.out _).mono ?_; rintro e w7 ⟨rfl, rfl⟩) | (go_at_call 18; refine (C18.out _).mono ?_; rintro e w7 ⟨rfl, rfl⟩) | fail)
  go_region
  all_goals go_wp2
  all_goals
    go_returns
    exact ⟨by first | rfl | (rw [x5']), ((((Below.refl _ _).alloc (Nat.le_refl _) _).alloc (by simp only [World.size_alloc]; omega) _).alloc (by simp only [World.size_alloc]; omega) _).drew⟩
set_option maxRecDepth 20000 in
set_option maxHeartbeats 2000000 in
theorem pre19 (rq : Array Value) (q key s sub : ByteArray) (st ln : Int) (w : World) (hq : q = s ++ sub) (z1 : s.size ≤ 1048576) (z2 : sub.size ≤ 1048576) (z3 : key.size ≤ 1048577) :
    Calls Try.prog 19 #[.agg rq, .string q, .string key, .agg #[.string s, .slice none 0 0, .slice none 0 0, .slice none 0 0, .int .i32 st, .int .i32 ln, .int .u8 1], .int .u8 2, .map none] w fun e w' => e = .returned (.tuple #[.bool true, .string (key ++ sub), .agg #[.int .i32 st, .int .i32 ln]]) ∧ Below w.heap.size w w' := by
  have p1 := pre_app s sub
  have x3 := ext_post s sub
  rw [← hq] at x3 p1
  have y2 : q.size = s.size + sub.size := by rw [hq, ByteArray.size_append]
  have C21 := Lib.hid (fun w' => Try.strings_HasPrefix q s w')
  rw [p1] at C21
  have Y := Lib.hid y2
  have w1 : s.size ≤ q.size := by omega
  have w6 : q.size ≤ 4194304 := by omega
  clear p1 hq y2
  go_enter Try.func19, Try.ntmps19
  go_wp2_with (first | (go_at_call 21; refine (C21.out _).mono ?_; rintro e w7 ⟨rfl, rfl⟩) | fail)
  go_region
  all_goals go_wp2
  all_goals
    go_returns
    exact ⟨by first | rfl | (rw [x3]), ((((Below.refl _ _).alloc (Nat.le_refl _) _).alloc (by simp only [World.size_alloc]; omega) _).alloc (by simp only [World.size_alloc]; omega) _).drew⟩
end Go.Proofs.Ytoonlcdifpffnaa.IeE
