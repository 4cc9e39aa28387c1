/- The walk of the law FnParseRangeHeaderReadsBackAFormattedRange: for all integers it returns true. No condition. -/
import Derived.Test.YteibgnldkimkoaaItoa
import Derived.Test.YteibgnldkimkoaaPri
import Derived.Test.YteibgnldkimkoaaShelf
import Derived.Laws.MakeOwn
import Derived.Lib.IndexLaws
namespace Go.Proofs.Yteibgnldkimkoaa.fnParseRangeHeaderReadsBackAFormattedRange
open Go.ChangeShapes Go.WideShapes Go.ChangeAt Go.RowKit Go.Deep Go.Proofs.Yteibgnldkimkoaa.Base Go.Proofs.Yteibgnldkimkoaa.Itoa Go.Proofs.Yteibgnldkimkoaa.Pri
set_option linter.unusedVariables false

/-! ### PLAIN: numbers as digits -/
theorem val_app (a b : List UInt8) (h : val a = 0) : val (a ++ b) = val b := by
  unfold val at h ⊢; rw [List.foldl_append, h]
theorem val_zeros : ∀ k, val (List.replicate k 48) = 0
  | 0 => rfl
  | k + 1 => by rw [List.replicate_succ', val_snoc, val_zeros k]; rfl
theorem digs_val (n : Nat) : val (digs n) = n := by
  induction n using Nat.strongRecOn with
  | ind n ih =>
    by_cases h : n = 0
    · subst h; rw [digs_zero]; rfl
    · rw [digs_pos n h, val_snoc, ih (n / 10) (by omega), UInt8.toNat_ofNat']; omega
theorem digs_digs (n : Nat) : Digs (digs n) := by
  induction n using Nat.strongRecOn with
  | ind n ih =>
    by_cases h : n = 0
    · subst h; rw [digs_zero]; intro c hc; simp at hc
    · rw [digs_pos n h]; intro c hc
      simp only [List.mem_append, List.mem_singleton] at hc
      rcases hc with hc | rfl
      · exact ih (n / 10) (by omega) c hc
      · unfold dig; rw [UInt8.toNat_ofNat']; omega
theorem itoa_val (n : Nat) : val (itoa n).data.toList = n := by
  unfold itoa
  by_cases h : n = 0
  · subst h; rfl
  · rw [if_neg h]; exact digs_val n
theorem itoa_digs (n : Nat) : Digs (itoa n).data.toList := by
  unfold itoa
  by_cases h : n = 0
  · subst h; intro c hc; simp at hc; subst hc; exact ⟨by decide, by decide⟩
  · rw [if_neg h]; exact digs_digs n
theorem itoa_ne (n : Nat) : 0 < (itoa n).size := by
  unfold itoa
  by_cases h : n = 0
  · subst h; decide
  · rw [if_neg h]
    show 0 < (digs n).toArray.size
    rw [digs_pos n h]; simp
theorem digs_len (n p : Nat) (h : n < 10 ^ p) : (digs n).length ≤ p := by
  induction n using Nat.strongRecOn generalizing p with
  | ind n ih =>
    by_cases h0 : n = 0
    · subst h0; rw [digs_zero]; simp
    · have := pow_step n p h (by omega)
      rw [digs_pos n h0, List.length_append]
      have := ih (n / 10) (by omega) (p - 1) this.2
      simp; omega
theorem itoa_len (n : Nat) (h : n < 1000000000000000000) : (itoa n).size ≤ 18 := by
  unfold itoa
  by_cases h0 : n = 0
  · subst h0; decide
  · rw [if_neg h0]; exact digs_len n 18 (by omega)
theorem no_dash (l : List UInt8) (h : Digs l) : (45 : UInt8) ∉ l := fun hc => by have := (h 45 hc).1; simp at this
def zeros (k : Nat) : ByteArray := ⟨(List.replicate k (48 : UInt8)).toArray⟩
theorem zeros_list (k : Nat) : (zeros k).data.toList = List.replicate k 48 := by simp [zeros]
theorem zeros_size (k : Nat) : (zeros k).size = k := by rw [← len_list, zeros_list, List.length_replicate]
def num (z n : Nat) : List UInt8 := List.replicate z 48 ++ (itoa n).data.toList
theorem num_val (z n : Nat) : val (num z n) = n := by unfold num; rw [val_app _ _ (val_zeros z), itoa_val]
theorem num_digs (z n : Nat) : Digs (num z n) := by
  intro c hc
  unfold num at hc
  rw [List.mem_append] at hc
  rcases hc with hc | hc
  · rw [List.eq_of_mem_replicate hc]; exact ⟨by decide, by decide⟩
  · exact itoa_digs n c hc
theorem num_ne (z n : Nat) : 0 < (num z n).length := by unfold num; rw [List.length_append, len_list]; have := itoa_ne n; omega
theorem num_len (z n : Nat) (h : n < 1000000000000000000) : (num z n).length ≤ z + 18 := by unfold num; rw [List.length_append, len_list, List.length_replicate]; have := itoa_len n h; omega

/-! ### zzZeros -/
def zrow (k i : Nat) : Value := if i < k then .int .u8 48 else .int .u8 0
theorem info5 : (Try.prog.info? 5).map (fun i => (i.zero, i.size, i.bytes)) = some (some (.int .u8 0), 1, 1) := by kernel_rfl
theorem make_any (len : Nat) (h : len ≤ 4096) (w : World) : (Instr.makeSlice 32 (.int .i64 (len : Int)) (.int .i64 (len : Int))).run Try.prog w = .ok (.slice (some ⟨w.heap.size, 0, none⟩) len len) (w.alloc (.cells (madeCells #[.int .u8 0] len) 5)) := by
  obtain ⟨i0, hi, hz0, hz1, hz2⟩ := info_parts info5
  have := run_make (P := Try.prog) w 32 5 i0 _ Try.underlying32 hi hz0 .i64 .i64 len len (by omega) (by omega) (by rw [hz2]; omega) (by omega)
  rw [hz1, Nat.mul_one] at this
  exact this
theorem zero_cells (n i : Nat) (h : i < n) : (madeCells #[.int .u8 0] n)[i]? = some (zrow 0 i) := by
  unfold madeCells zrow
  rw [Array.getElem?_map, Array.getElem?_range, if_pos h, if_neg (by omega)]
  simp [Nat.mod_one]
theorem zrow_step (k i : Nat) : (if i = k then Value.int .u8 48 else zrow k i) = zrow (k + 1) i := by
  unfold zrow
  by_cases h : i = k
  · rw [if_pos h, if_pos (by omega)]
  · rw [if_neg h]
    by_cases h2 : i < k
    · rw [if_pos h2, if_pos (by omega)]
    · rw [if_neg h2, if_neg (by omega)]
theorem zeros_any (len : Nat) (w : World) (h : len ≤ 4096) : Calls Try.prog 9 #[.int .i64 len] w fun e w' => e = .returned (.string (zeros len)) ∧ Below w.heap.size w w' := by
  obtain ⟨v, hv⟩ : ∃ v, v = zeros len := ⟨_, rfl⟩
  rw [← hv]
  have HV := Lib.hid hv; clear hv
  have hmk := make_any len h
  go_enter Try.func9, Try.ntmps9
  go_wp2
  clear hmk
  go_loopw [4] (fun i wr => ∃ k : Nat, k ≤ len ∧ i = .int .i64 k ∧ wr.rowIs w.heap.size 5 len (zrow k) ∧ Below w.heap.size w wr) (fun i _ => len - (intOf i).toNat)
  case atStart =>
    refine ⟨0, by omega, rfl, ?_, (Below.refl _ _).alloc (Nat.le_refl _) _⟩
    have := World.rowIs_alloc w (madeCells #[.int .u8 0] len) 5 (zrow 0) (fun i hi => zero_cells _ i (by rw [size_madeCells] at hi; exact hi))
    rw [size_madeCells] at this
    exact this
  case round =>
    obtain ⟨k, hk, rfl, HR, hbel⟩ := hrel
    by_cases hlt : k < len
    · have x1 : (0 : Int) ≤ (k : Int) := by omega
      have x2 : (k : Int) < (len : Int) := by omega
      have c0 : ∃ v, wr.cell? ⟨w.heap.size, k, none⟩ = some v := ⟨_, HR.cell (by omega)⟩
      obtain ⟨v0, c0⟩ := c0
      have f0 := HR.frozen k
      have HR2 := Lib.hid ((HR.set k (.int .u8 48)).congr (fun i _ => zrow_step k i))
      have hb2 := Lib.hid (hbel.setCell (p := ⟨w.heap.size, k, none⟩) (Nat.le_refl _) (.int .u8 48))
      clear HR hbel
      go_wp2
      go_roundw
      case rel => exact ⟨k + 1, by omega, by go_num, HR2.out, hb2.out⟩
      case measure => simp [intOf]; omega
    · have hkl : k = len := by omega
      subst hkl
      have hconv : (convert 32 9 (.slice (some ⟨w.heap.size, 0, none⟩) k k)).run Try.prog wr = .ok (.string (zeros k)) wr := by
        have := run_convert_bytes_back (P := Try.prog) wr 32 9 5 ⟨w.heap.size, 0, none⟩ k (List.replicate k 48) Try.underlying32 Try.underlying5 Try.underlying9 (fun j hj => by
          have e : (⟨w.heap.size, 0, none⟩ : Addr).add j = ⟨w.heap.size, j, none⟩ := by simp [Addr.add]; exact fun h => h.symm
          rw [List.length_replicate] at hj
          rw [e, HR.cell (by omega)]; unfold zrow; rw [if_pos (by omega)]; simp)
        rw [List.length_replicate] at this; exact this
      have BEL := Lib.hid hbel
      clear HR hbel
      go_wp2
      go_ret
      exact ⟨ret_string (by rw [HV.out]), BEL.out⟩

/-! ### parseRangeHeader -/
def hdr : List UInt8 := [98, 121, 116, 101, 115, 61]
theorem idx_at (c : UInt8) : ∀ (p r : List UInt8), c ∉ p → Lib.indexByte (p ++ c :: r) c = p.length
  | [], r, _ => by simp [Lib.indexByte]
  | b :: p, r, h => by
    have hb : (b == c) = false := by simp at h; simpa using Ne.symm h.1
    have ih := idx_at c p r (by simp at h; exact h.2)
    simp only [List.cons_append, Lib.indexByte, hb, ih]
    rw [if_neg (by decide), if_neg (by simp)]; simp
theorem pri_yes (n : Int) (A : List UInt8) (hn : n ≤ 922337203685477579) (hn0 : 1 ≤ n) (h0 : 0 < A.length) (hA : Digs A) (hv : (val A : Int) ≤ n - 1) (hl : A.length ≤ 1000000) (X : ByteArray) (hX : X.data.toList = A) (w : World) :
    Calls Try.prog 17 #[.string X, .int .i64 (n - 1)] w fun e w' => e = .returned (.tuple #[.int .i64 (val A), .bool true]) ∧ Below w.heap.size w w' := by
  have hs : X.size = A.length := by rw [← len_list, hX]
  refine (pri_any X (n - 1) w (by omega) (by omega) (by omega)).mono ?_
  rintro e w' ⟨h, hb⟩
  rcases h with ⟨_, rfl⟩ | ⟨h, _⟩
  · exact ⟨by rw [hX], hb⟩
  · exact absurd ⟨by omega, by rw [hX]; exact hA, by rw [hX]; exact hv⟩ h
theorem pri_no (n : Int) (A : List UInt8) (hn : n ≤ 922337203685477579) (hn0 : 1 ≤ n) (hv : n - 1 < (val A : Int)) (hl : A.length ≤ 1000000) (X : ByteArray) (hX : X.data.toList = A) (w : World) :
    Calls Try.prog 17 #[.string X, .int .i64 (n - 1)] w fun e w' => e = .returned (.tuple #[.int .i64 0, .bool false]) ∧ Below w.heap.size w w' := by
  have hs : X.size = A.length := by rw [← len_list, hX]
  refine (pri_any X (n - 1) w (by omega) (by omega) (by omega)).mono ?_
  rintro e w' ⟨h, hb⟩
  rcases h with ⟨⟨_, _, h⟩, _⟩ | ⟨h, rfl⟩
  · rw [hX] at h; omega
  · exact ⟨rfl, hb⟩
theorem cut1 (u : ByteArray) (A B : List UInt8) (hu : u.data.toList = [98, 121, 116, 101, 115, 61] ++ (A ++ 45 :: B)) : ((u.extract 6 u.size).extract 0 A.length).data.toList = A := by
  rw [Lib.extract_data, Lib.extract_data, hu]
  have hl : u.size = 7 + A.length + B.length := by have := congrArg List.length hu; rw [len_list] at this; rw [this]; simp; omega
  rw [hl, show List.drop 6 ([98, 121, 116, 101, 115, 61] ++ (A ++ 45 :: B)) = A ++ 45 :: B from rfl, List.take_of_length_le (l := A ++ 45 :: B) (by simp; omega)]
  simp
theorem cut2 (u : ByteArray) (A B : List UInt8) (j : Nat) (hu : u.data.toList = [98, 121, 116, 101, 115, 61] ++ (A ++ 45 :: B)) (hj : A.length + 1 + B.length ≤ j) : ((u.extract 6 u.size).extract (A.length + 1) j).data.toList = B := by
  rw [Lib.extract_data, Lib.extract_data, hu]
  have hl : u.size = 7 + A.length + B.length := by have := congrArg List.length hu; rw [len_list] at this; rw [this]; simp; omega
  rw [hl, show List.drop 6 ([98, 121, 116, 101, 115, 61] ++ (A ++ 45 :: B)) = A ++ 45 :: B from rfl, List.take_of_length_le (l := A ++ 45 :: B) (by simp; omega)]
  rw [show A ++ 45 :: B = (A ++ [45]) ++ B by simp, show A.length + 1 = (A ++ [45]).length by simp, List.drop_left]
  exact List.take_of_length_le (by simp; omega)
theorem size_of (u : ByteArray) (A B : List UInt8) (hu : u.data.toList = [98, 121, 116, 101, 115, 61] ++ (A ++ 45 :: B)) : u.size = 7 + A.length + B.length := by
  have := congrArg List.length hu; rw [len_list] at this; rw [this]; simp; omega
theorem head_yes (u : ByteArray) (A B : List UInt8) (n : Int) (w : World) (hu : u.data.toList = [98, 121, 116, 101, 115, 61] ++ (A ++ 45 :: B)) (hA : Digs A) (hB : Digs B) (hz : u.size ≤ 1000000) (hn : 1 ≤ n) (hn2 : n ≤ 922337203685477579)
    (a0 : 0 < A.length) (b0 : 0 < B.length) (av : (val A : Int) ≤ n - 1) (bv : (val B : Int) ≤ n - 1) :
    Calls Try.prog 14 #[.string u, .int .i64 n] w fun e w' => e = .returned (.tuple #[.int .i64 (val A), .int .i64 (val B + 1), .bool true]) ∧ Below w.heap.size w w' := by
  have hp : Lib.hasPrefix u.data.toList [98, 121, 116, 101, 115, 61] = true := by unfold Lib.hasPrefix; rw [List.isPrefixOf_iff_prefix, hu]; exact List.prefix_append _ _
  have hsz := size_of u A B hu
  have hi : Lib.indexByte (List.take (u.size - 6) (List.drop 6 u.data.toList)) 45 = (A.length : Int) := by
    rw [List.take_of_length_le (by rw [List.length_drop, len_list]; omega), hu]
    exact idx_at 45 A B (no_dash A hA)
  have q1 : ((A.length : Int) != -1) = true := by rw [bne_iff_ne]; omega
  have hs6 : 7 + A.length + B.length ≤ u.size := by omega
  have hs7 : u.size ≤ 7 + A.length + B.length := by omega
  have PA := Lib.hid (pri_yes n A hn2 hn a0 hA av (by omega))
  have PB := Lib.hid (pri_yes n B hn2 hn b0 hB bv (by omega))
  have X1 := Lib.hid (cut1 u A B hu)
  have X2 := Lib.hid (fun j => cut2 u A B j hu)
  clear hsz hu
  generalize val A = va at *
  generalize val B = vb at *
  go_enter Try.func14, Try.ntmps14
  go_wp2_with fail
  refine (Try.strings_HasPrefix _ _ _).mono ?_
  rintro e w' ⟨rfl, rfl⟩
  go_wp2_with fail
  refine (Try.strings_IndexByte _ _ _).mono ?_
  rintro e w' ⟨rfl, rfl⟩
  go_wp2_with fail
  refine (PA.out _ X1.out _).mono ?_
  rintro e w1 ⟨rfl, hb1⟩
  go_wp2_with fail
  refine (PB.out _ (X2.out _ ?hj) _).mono ?_
  case hj => first | omega | (simp; omega)
  rintro e w2 ⟨rfl, hb2⟩
  go_wp2
  go_ret3
  exact ⟨rfl, below_join hb1 hb1.size hb2⟩
theorem head_no (u : ByteArray) (A B : List UInt8) (n : Int) (w : World) (hu : u.data.toList = [98, 121, 116, 101, 115, 61] ++ (A ++ 45 :: B)) (hA : Digs A) (hz : u.size ≤ 1000000) (hn : 1 ≤ n) (hn2 : n ≤ 922337203685477579)
    (a0 : 0 < A.length) (av : (val A : Int) ≤ n - 1) (bv : n - 1 < (val B : Int)) :
    Calls Try.prog 14 #[.string u, .int .i64 n] w fun e w' => e = .returned (.tuple #[.int .i64 0, .int .i64 0, .bool false]) ∧ Below w.heap.size w w' := by
  have hp : Lib.hasPrefix u.data.toList [98, 121, 116, 101, 115, 61] = true := by unfold Lib.hasPrefix; rw [List.isPrefixOf_iff_prefix, hu]; exact List.prefix_append _ _
  have hsz := size_of u A B hu
  have hi : Lib.indexByte (List.take (u.size - 6) (List.drop 6 u.data.toList)) 45 = (A.length : Int) := by
    rw [List.take_of_length_le (by rw [List.length_drop, len_list]; omega), hu]
    exact idx_at 45 A B (no_dash A hA)
  have q1 : ((A.length : Int) != -1) = true := by rw [bne_iff_ne]; omega
  have hs6 : 7 + A.length + B.length ≤ u.size := by omega
  have hs7 : u.size ≤ 7 + A.length + B.length := by omega
  have PA := Lib.hid (pri_yes n A hn2 hn a0 hA av (by omega))
  have PB := Lib.hid (pri_no n B hn2 hn bv (by omega))
  have X1 := Lib.hid (cut1 u A B hu)
  have X2 := Lib.hid (fun j => cut2 u A B j hu)
  clear hsz hu
  generalize val A = va at *
  generalize val B = vb at *
  go_enter Try.func14, Try.ntmps14
  go_wp2_with fail
  refine (Try.strings_HasPrefix _ _ _).mono ?_
  rintro e w' ⟨rfl, rfl⟩
  go_wp2_with fail
  refine (Try.strings_IndexByte _ _ _).mono ?_
  rintro e w' ⟨rfl, rfl⟩
  go_wp2_with fail
  refine (PA.out _ X1.out _).mono ?_
  rintro e w1 ⟨rfl, hb1⟩
  go_wp2_with fail
  refine (PB.out _ (X2.out _ ?hj) _).mono ?_
  case hj => first | omega | (simp; omega)
  rintro e w2 ⟨rfl, hb2⟩
  go_wp2
  go_ret3
  exact ⟨rfl, below_join hb1 hb1.size hb2⟩
theorem wrap11 (u : ByteArray) (n : Int) (a b c : Value) (h : ∀ w, Calls Try.prog 14 #[.string u, .int .i64 n] w fun e w' => e = .returned (.tuple #[a, b, c]) ∧ Below w.heap.size w w') (w : World) :
    Calls Try.prog 11 #[.string u, .int .i64 n] w fun e w' => e = .returned (.tuple #[a, b, c]) ∧ Below w.heap.size w w' := by
  have H := Lib.hid h; clear h
  go_enter Try.func11, Try.ntmps11
  go_wp2_with fail
  refine (H.out _).mono ?_
  rintro e w' ⟨rfl, hb⟩
  go_wp2
  go_ret3
  exact ⟨rfl, hb⟩

/-! ### THE LAW -/
theorem text1 (b l zb zl : Nat) : (({ data := #[98, 121, 116, 101, 115, 61] } : ByteArray) ++ zeros zb ++ itoa b ++ ({ data := #[45] } : ByteArray) ++ zeros zl ++ itoa l).data.toList = [98, 121, 116, 101, 115, 61] ++ (num zb b ++ 45 :: num zl l) := by
  rw [list_append, list_append, list_append, list_append, list_append, zeros_list, zeros_list]; unfold num; simp
theorem text2 (b l : Nat) : (({ data := #[98, 121, 116, 101, 115, 61] } : ByteArray) ++ itoa b ++ ({ data := #[45] } : ByteArray) ++ itoa l).data.toList = [98, 121, 116, 101, 115, 61] ++ (num 0 b ++ 45 :: num 0 l) := by
  rw [list_append, list_append, list_append]; unfold num; simp
theorem law_in (b l n zb zl : Nat) (w : World) (h1 : b ≤ l) (h2 : l < n) (h3 : n ≤ 922337203685477579) (h4 : zb ≤ 4096) (h5 : zl ≤ 4096) :
    Calls Try.prog 4 #[.int .i64 b, .int .i64 l, .int .i64 n, .int .i64 zb, .int .i64 zl] w fun e w' => e = .returned (.bool true) ∧ Below w.heap.size w w' := by
  have sb := itoa_len b (by omega); have sl := itoa_len l (by omega); have sn := itoa_len n (by omega)
  have zzb := zeros_size zb; have zzl := zeros_size zl
  have t1 := text1 b l zb zl
  have t2 := text2 b n
  have z1 := size_of _ _ _ t1
  have z2 := size_of _ _ _ t2
  have nb := num_len zb b (by omega); have nl := num_len zl l (by omega); have nb0 := num_len 0 b (by omega); have nn := num_len 0 n (by omega)
  have H1 := wrap11 _ (n : Int) _ _ _ (fun w => head_yes _ (num zb b) (num zl l) n w t1 (num_digs _ _) (num_digs _ _) (by omega) (by omega) (by omega) (num_ne _ _) (num_ne _ _) (by rw [num_val]; omega) (by rw [num_val]; omega))
  have H2 := wrap11 _ (n : Int) _ _ _ (fun w => head_no _ (num 0 b) (num 0 n) n w t2 (num_digs _ _) (by omega) (by omega) (by omega) (num_ne _ _) (by rw [num_val]; omega) (by rw [num_val]; omega))
  rw [num_val, num_val] at H1
  have K1 := Lib.hid H1; have K2 := Lib.hid H2
  have Ib := Lib.hid (fun w => itoa_any b w (by omega)); have Il := Lib.hid (fun w => itoa_any l w (by omega)); have In := Lib.hid (fun w => itoa_any n w (by omega))
  have Zb := Lib.hid (fun w => zeros_any zb w h4); have Zl := Lib.hid (fun w => zeros_any zl w h5)
  clear H1 H2 t1 t2 z1 z2 zzb zzl nb nl nb0 nn
  have zb1 : (zeros zb).size ≤ 4096 := by rw [zeros_size]; exact h4
  have zl1 : (zeros zl).size ≤ 4096 := by rw [zeros_size]; exact h5
  generalize zeros zb = ZB at *
  generalize zeros zl = ZL at *
  generalize itoa b = IB at *
  generalize itoa l = IL at *
  generalize itoa n = IN at *
  have q1 : ((b : Int) != (b : Int)) = false := by simp
  have q2 : ((l : Int) + 1 != (l : Int) + 1) = false := by simp
  go_enter Try.func4, Try.ntmps4
  go_wp2_with fail
  refine (Zb.out _).mono ?_
  rintro e w1 ⟨rfl, hb1⟩
  go_wp2_with fail
  refine (Ib.out _).mono ?_
  rintro e w2 ⟨rfl, hb2⟩
  go_wp2_with fail
  refine (Zl.out _).mono ?_
  rintro e w3 ⟨rfl, hb3⟩
  go_wp2_with fail
  refine (Il.out _).mono ?_
  rintro e w4 ⟨rfl, hb4⟩
  go_wp2_with fail
  refine (K1.out _).mono ?_
  rintro e w5 ⟨rfl, hb5⟩
  go_wp2_with fail
  refine (Ib.out _).mono ?_
  rintro e w6 ⟨rfl, hb6⟩
  go_wp2_with fail
  refine (In.out _).mono ?_
  rintro e w7 ⟨rfl, hb7⟩
  go_wp2_with fail
  refine (K2.out _).mono ?_
  rintro e w8 ⟨rfl, hb8⟩
  go_wp2
  go_ret
  refine ⟨rfl, ?_⟩
  have g1 := below_join hb1 hb1.size hb2
  have g2 := below_join g1 g1.size hb3
  have g3 := below_join g2 g2.size hb4
  have g4 := below_join g3 g3.size hb5
  have g5 := below_join g4 g4.size hb6
  have g6 := below_join g5 g5.size hb7
  exact below_join g6 g6.size hb8
theorem walk (a0 : Int) (a1 : Int) (a2 : Int) (a3 : Int) (a4 : Int) (w : World) (w0 : (Lit.int .i64 a0).wf = true) (w1 : (Lit.int .i64 a1).wf = true) (w2 : (Lit.int .i64 a2).wf = true) (w3 : (Lit.int .i64 a3).wf = true) (w4 : (Lit.int .i64 a4).wf = true) :
    Calls Try.prog 4 #[.int .i64 a0, .int .i64 a1, .int .i64 a2, .int .i64 a3, .int .i64 a4] w fun e w' => e = .returned (.bool true) ∧ Below w.heap.size w w' := by
  by_cases h2 : 1 ≤ a2 ∧ a2 ≤ 922337203685477579
  · obtain ⟨h2, h2'⟩ := h2
    by_cases h0 : 0 ≤ a0 ∧ a0 ≤ a1 ∧ a1 < a2
    · obtain ⟨h0, h1, h1'⟩ := h0
      by_cases h3 : 0 ≤ a3 ∧ a3 ≤ 4096 ∧ 0 ≤ a4 ∧ a4 ≤ 4096
      · obtain ⟨h3, h3', h4, h4'⟩ := h3
        obtain ⟨b, rfl⟩ := Int.eq_ofNat_of_zero_le h0
        obtain ⟨l, rfl⟩ := Int.eq_ofNat_of_zero_le (show 0 ≤ a1 by omega)
        obtain ⟨n, rfl⟩ := Int.eq_ofNat_of_zero_le (show 0 ≤ a2 by omega)
        obtain ⟨zb, rfl⟩ := Int.eq_ofNat_of_zero_le h3
        obtain ⟨zl, rfl⟩ := Int.eq_ofNat_of_zero_le h4
        exact law_in b l n zb zl w (by omega) (by omega) (by omega) (by omega) (by omega)
      · clear w0 w1 w2 w3 w4
        by_cases c1 : a3 < 0
        · go_enter Try.func4, Try.ntmps4
          go_wp2
          all_goals (go_ret; exact ⟨rfl, Below.refl _ _⟩)
        · by_cases c2 : 4096 < a3
          · go_enter Try.func4, Try.ntmps4
            go_wp2
            all_goals (go_ret; exact ⟨rfl, Below.refl _ _⟩)
          · by_cases c3 : a4 < 0
            · go_enter Try.func4, Try.ntmps4
              go_wp2
              all_goals (go_ret; exact ⟨rfl, Below.refl _ _⟩)
            · have c4 : 4096 < a4 := by omega
              go_enter Try.func4, Try.ntmps4
              go_wp2
              all_goals (go_ret; exact ⟨rfl, Below.refl _ _⟩)
    · clear w0 w1 w2 w3 w4
      by_cases c1 : a0 < 0
      · go_enter Try.func4, Try.ntmps4
        go_wp2
        all_goals (go_ret; exact ⟨rfl, Below.refl _ _⟩)
      · by_cases c2 : a1 < a0
        · go_enter Try.func4, Try.ntmps4
          go_wp2
          all_goals (go_ret; exact ⟨rfl, Below.refl _ _⟩)
        · have c3 : a2 ≤ a1 := by omega
          go_enter Try.func4, Try.ntmps4
          go_wp2
          all_goals (go_ret; exact ⟨rfl, Below.refl _ _⟩)
  · clear w0 w1 w2 w3 w4
    by_cases c1 : a2 < 1
    · go_enter Try.func4, Try.ntmps4
      go_wp2
      all_goals (go_ret; exact ⟨rfl, Below.refl _ _⟩)
    · have c2 : 922337203685477579 < a2 := by omega
      go_enter Try.func4, Try.ntmps4
      go_wp2
      all_goals (go_ret; exact ⟨rfl, Below.refl _ _⟩)
end Go.Proofs.Yteibgnldkimkoaa.fnParseRangeHeaderReadsBackAFormattedRange
