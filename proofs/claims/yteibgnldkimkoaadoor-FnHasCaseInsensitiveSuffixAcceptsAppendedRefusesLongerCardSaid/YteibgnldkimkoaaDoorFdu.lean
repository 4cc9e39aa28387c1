/- zzUpperString, hasCaseInsensitiveSuffix. Conditions: lengths; the two tables of unicode/utf8 read as laid. -/
import Derived.Test.YteibgnldkimkoaaDoorFdw
import Derived.WalkSpells
import Derived.Handy
import Derived.Laws.IdiomStrings
import Derived.Deep.OwnRows
namespace Go.Proofs.YteibgnldkimkoaaDoor.Fdu
open Go.RowKit Go.Proofs.YteibgnldkimkoaaDoor.Base Go.Proofs.YteibgnldkimkoaaDoor.Fdp Go.Proofs.YteibgnldkimkoaaDoor.Fdw
set_option linter.unusedVariables false
def upc (x : UInt8) : UInt8 := if 97 ≤ x.toNat ∧ x.toNat ≤ 122 then x - 32 else x
theorem upc_fb (x : UInt8) : fb x.toNat (upc x).toNat := by
  unfold upc
  by_cases h : 97 ≤ x.toNat ∧ x.toNat ≤ 122
  · rw [if_pos h]
    have : (x - 32).toNat = x.toNat - 32 := by
      rw [UInt8.toNat_sub_of_le _ _ (by rw [UInt8.le_iff_toNat_le]; show 32 ≤ x.toNat; omega)]
      rfl
    exact .inr (.inr ⟨by omega, by omega, by omega⟩)
  · rw [if_neg h]; exact .inl rfl
def up (s : ByteArray) : ByteArray := ⟨(s.data.toList.map upc).toArray⟩
theorem up_size (s : ByteArray) : (up s).size = s.size := by
  show (s.data.toList.map upc).toArray.size = s.data.size
  simp
theorem up_at (s : ByteArray) (i : Nat) (h : i < (up s).size) (h2 : i < s.size) : (up s)[i] = upc s[i] := by
  show (s.data.toList.map upc).toArray[i]'(by simpa using h2) = _
  simp
  rfl
theorem fo_up (s : ByteArray) : Fo s (up s) := fo_mk (up_size s).symm (fun i hs ht => by rw [up_at s i ht hs]; exact upc_fb _)
theorem fb_symm {a b : Nat} (h : fb a b) : fb b a := by
  rcases h with h | h | h
  · exact .inl h.symm
  · exact .inr (.inr h)
  · exact .inr (.inl h)
theorem Fo.symm {s t : ByteArray} (h : Fo s t) : Fo t s := ⟨h.len.symm, fun i => fb_symm (h.at_ i)⟩
theorem infoB : (Tryd.prog.info? 5).map (fun i => (i.zero, i.size, i.bytes)) = some (some (.int .u8 0), 1, 1) := by kernel_rfl
def cop (s : ByteArray) (k i : Nat) : Value := if i < k then .int .u8 ((up s).data.toList.getD i 0).toNat else .int .u8 0
theorem up_getD (s : ByteArray) (k : Nat) (h : k < s.size) : (up s).data.toList.getD k 0 = upc s[k] := by
  have h2 : k < (up s).size := by rw [up_size]; exact h
  rw [List.getD_eq_getElem?_getD, get_list? (up s) k h2, up_at s k h2 h]
  rfl
theorem cop_step (s : ByteArray) (k : Nat) (h : k < s.size) (v : Int) (hv : v = (upc s[k]).toNat) (i : Nat) : (if i = k then (.int .u8 v) else cop s k i) = cop s (k + 1) i := by
  unfold cop
  by_cases hi : i = k
  · subst hi; rw [if_pos rfl, if_pos (by omega), up_getD s i h, hv]
  · rw [if_neg hi]
    by_cases h2 : i < k
    · rw [if_pos h2, if_pos (by omega)]
    · rw [if_neg h2, if_neg (by omega)]
theorem upper6 (s : ByteArray) (w : World) (hs : s.size ≤ 262144) : Calls Tryd.prog 6 #[.string s] w fun e w' => e = .returned (.string (up s)) ∧ Below w.heap.size w w' := by
  have hmk := fun W => run_make_row' (P := Tryd.prog) 24 5 (.int .u8 0) 1 Tryd.underlying24 infoB rfl .i64 .i64 s.size (by omega) (by omega) W
  go_enter Tryd.func6, Tryd.ntmps6
  go_wp2
  clear hmk
  go_loopw [4] (fun i wr => ∃ k : Nat, k ≤ s.size ∧ i = .int .i64 k ∧ wr.rowIs w.heap.size 5 s.size (cop s k) ∧ Below w.heap.size w wr) (fun i _ => s.size - (intOf i).toNat)
  case atStart => exact ⟨0, by omega, rfl, (World.rowIs_made w (.int .u8 0) s.size 5).congr (fun i _ => by unfold cop; rw [if_neg (by omega)]), (Below.refl _ _).alloc (Nat.le_refl _) _⟩
  case round =>
    obtain ⟨k, hk, rfl, HR, hbel⟩ := hrel
    by_cases hlt : k < s.size
    · have cw := HR.cell (i := k) hlt
      have fw := HR.frozen k
      have x256 := s[k].toNat_lt
      by_cases hlow : 97 ≤ s[k].toNat ∧ s[k].toNat ≤ 122
      · obtain ⟨l1, l2⟩ := hlow
        have hv : ((s[k].toNat : Int) - 32) = (upc s[k]).toNat := by
          unfold upc
          rw [if_pos ⟨l1, l2⟩, UInt8.toNat_sub_of_le _ _ (by rw [UInt8.le_iff_toNat_le]; show 32 ≤ s[k].toNat; omega)]
          show _ = ((s[k].toNat - 32 : Nat) : Int)
          omega
        have R2 := Lib.hid ((HR.set k _).congr (fun i _ => cop_step s k hlt _ hv i))
        have B2 := Lib.hid (hbel.setCell (p := ⟨w.heap.size, k, none⟩) (Nat.le_refl _) (.int .u8 ((s[k].toNat : Int) - 32)))
        have l1' : (97 : Int) ≤ (s[k].toNat : Int) := by omega
        have l2' : (s[k].toNat : Int) ≤ 122 := by omega
        clear HR hbel hv l1 l2
        go_wp2
        go_roundw
        case rel => exact ⟨k + 1, by omega, by go_num, R2.out, B2.out⟩
        case measure => simp [intOf]; omega
      · have hv : (s[k].toNat : Int) = (upc s[k]).toNat := by
          unfold upc; rw [if_neg hlow]
        have R2 := Lib.hid ((HR.set k _).congr (fun i _ => cop_step s k hlt _ hv i))
        have B2 := Lib.hid (hbel.setCell (p := ⟨w.heap.size, k, none⟩) (Nat.le_refl _) (.int .u8 (s[k].toNat : Int)))
        clear HR hbel hv
        by_cases l1 : 97 ≤ s[k].toNat
        · have l2 : ¬ s[k].toNat ≤ 122 := fun h => hlow ⟨l1, h⟩
          clear hlow
          have l1' : (97 : Int) ≤ (s[k].toNat : Int) := by omega
          have l2' : ¬ (s[k].toNat : Int) ≤ 122 := by omega
          clear l1 l2
          go_wp2
          go_roundw
          case rel => exact ⟨k + 1, by omega, by go_num, R2.out, B2.out⟩
          case measure => simp [intOf]; omega
        · clear hlow
          have l1' : ¬ (97 : Int) ≤ (s[k].toNat : Int) := by omega
          clear l1
          go_wp2
          go_roundw
          case rel => exact ⟨k + 1, by omega, by go_num, R2.out, B2.out⟩
          case measure => simp [intOf]; omega
    · have hkn : k = s.size := by omega
      subst hkn
      have hul : (up s).data.toList.length = s.size := by rw [len_list, up_size]
      have hconv : (convert 24 9 (.slice (some ⟨w.heap.size, 0, none⟩) s.size s.size)).run Tryd.prog wr = .ok (.string (up s)) wr := by
        have := run_convert_bytes_back (P := Tryd.prog) wr 24 9 5 ⟨w.heap.size, 0, none⟩ s.size (up s).data.toList Tryd.underlying24 Tryd.underlying5 Tryd.underlying9 (fun j hj => by
          have e : (⟨w.heap.size, 0, none⟩ : Addr).add j = ⟨w.heap.size, j, none⟩ := by simp [Addr.add]; exact fun h => h.symm
          rw [e, HR.cell (by omega)]; unfold cop
          rw [if_pos (by omega), List.getD_eq_getElem?_getD, List.getElem?_eq_getElem hj]; rfl)
        rw [hul] at this
        exact this
      have BEL := Lib.hid hbel
      clear HR hbel
      go_wp2
      go_ret
      exact ⟨rfl, BEL.out⟩
/-- hasCaseInsensitiveSuffix says yes where the end differs by the case of ASCII letters alone. -/
theorem suf7 (s x : ByteArray) (w : World) (h : x.size ≤ s.size) (hs : s.size ≤ 16777216) (hF : Fo (s.extract (s.size - x.size) s.size) x) (hT : Lib.Utf8Tabs 3 4 w) :
    Calls Tryd.prog 7 #[.string s, .string x] w fun e w' => e = .returned (.bool true) ∧ Below w.heap.size w w' := by
  have F8 := Lib.hid (fold8 (s.extract (s.size - x.size) s.size) x w hF (by rw [ByteArray.size_extract]; omega) hT)
  obtain ⟨d, hd⟩ : ∃ d, s.size - x.size = d := ⟨_, rfl⟩
  rw [hd] at F8
  have hds : (s.size : Int) - (x.size : Int) = (d : Int) := by omega
  have hd1 : d ≤ s.size := by omega
  clear hF hT hd
  go_enter Tryd.func7, Tryd.ntmps7
  go_wp2_with (first | (go_at_call 8; refine F8.out.mono ?_; rintro e w4 ⟨rfl, hb⟩) | fail)
  go_ret
  exact ⟨rfl, hb⟩
theorem suf7no (s x : ByteArray) (w : World) (h : s.size < x.size) (hx : x.size ≤ 16777216) : Calls Tryd.prog 7 #[.string s, .string x] w fun e w' => e = .returned (.bool false) ∧ w = w' := by
  have h' : ¬ (x.size : Int) ≤ (s.size : Int) := by omega
  go_enter Tryd.func7, Tryd.ntmps7
  go_wp2
  go_ret
  exact ⟨rfl, rfl⟩
theorem zz5 (s x : ByteArray) (w : World) (h : x.size ≤ s.size) (hs : s.size ≤ 16777216) (hF : Fo (s.extract (s.size - x.size) s.size) x) (hT : Lib.Utf8Tabs 3 4 w) :
    Calls Tryd.prog 5 #[.string s, .string x] w fun e w' => e = .returned (.bool true) ∧ Below w.heap.size w w' := by
  have F7 := Lib.hid (suf7 s x w h hs hF hT)
  clear hF hT
  go_enter Tryd.func5, Tryd.ntmps5
  go_wp2_with (first | (go_at_call 7; refine F7.out.mono ?_; rintro e w4 ⟨rfl, hb⟩) | fail)
  go_ret
  exact ⟨rfl, hb⟩
theorem zz5no (s x : ByteArray) (w : World) (h : s.size < x.size) (hx : x.size ≤ 16777216) : Calls Tryd.prog 5 #[.string s, .string x] w fun e w' => e = .returned (.bool false) ∧ w = w' := by
  have F7 := Lib.hid (suf7no s x w h hx)
  go_enter Tryd.func5, Tryd.ntmps5
  go_wp2_with (first | (go_at_call 7; refine F7.out.mono ?_; rintro e w4 ⟨rfl, rfl⟩) | fail)
  go_ret
  exact ⟨rfl, rfl⟩
theorem app_size (p x : ByteArray) : (p ++ x).size = p.size + x.size := ByteArray.size_append
theorem app_end (p x : ByteArray) (n : Nat) (h : n = p.size) : (p ++ x).extract n (p ++ x).size = x := by
  apply ext_list
  rw [Lib.extract_data, list_append, h]
  rw [List.take_of_length_le (by rw [List.length_drop, List.length_append, len_list, len_list, app_size]; omega)]
  rw [List.drop_append_of_le_length (by rw [len_list]; exact Nat.le_refl _), List.drop_of_length_le (by rw [len_list]; exact Nat.le_refl _), List.nil_append]
end Go.Proofs.YteibgnldkimkoaaDoor.Fdu
