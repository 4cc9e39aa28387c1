/- mapKeyForDefine by its contract: the key is, part by part, four bytes of length (the least first) and the part's bytes. Conditions: at most 2^20 parts and bytes. -/
import Derived.Test.YtefkeccjnhkjeaaBld
import Derived.Deep.QuietTactic
import Derived.BigQuiet
import Derived.Deep.RegionHeld3
import Derived.Lib.Endian
namespace Go.Proofs.Ytefkeccjnhkjeaa.Key
open Go.ChangeShapes Go.WideShapes Go.ChangeAt Go.RowKit Go.Deep Go.Proofs.Ytefkeccjnhkjeaa.Base Go.Proofs.Ytefkeccjnhkjeaa.Sls Go.Proofs.Ytefkeccjnhkjeaa.Bld
set_option linter.unusedVariables false
/-! ### PLAIN -/
def tot (l : List ByteArray) : Nat := (l.map ByteArray.size).sum
theorem tot_nil : tot [] = 0 := rfl
theorem tot_append (a b : List ByteArray) : tot (a ++ b) = tot a + tot b := by simp [tot]
theorem tot_step (l : List ByteArray) (k : Nat) (h : k < l.length) : tot (l.take (k + 1)) = tot (l.take k) + l[k].size := by
  rw [List.take_succ_eq_append_getElem h, tot_append]; simp [tot]
theorem tot_le (l : List ByteArray) (k : Nat) : tot (l.take k) ≤ tot l := by
  conv => rhs; rw [← List.take_append_drop k l, tot_append]
  omega
def recd (s : ByteArray) : List UInt8 := Lib.leBytes 4 s.size ++ s.data.toList
def key (l : List ByteArray) : List UInt8 := l.flatMap recd
theorem key_append (a b : List ByteArray) : key (a ++ b) = key a ++ key b := by simp [key]
theorem key_step (l : List ByteArray) (k : Nat) (h : k < l.length) : key (l.take (k + 1)) = key (l.take k) ++ Lib.leBytes 4 l[k].size ++ l[k].data.toList := by
  rw [List.take_succ_eq_append_getElem h, key_append, List.append_assoc]; simp [key, recd]
theorem le_len (v : Nat) : (Lib.leBytes 4 v).length = 4 := by simp [Lib.leBytes]
theorem key_len (l : List ByteArray) : (key l).length = 4 * l.length + tot l := by
  induction l with
  | nil => rfl
  | cons a l ih =>
    have : key (a :: l) = recd a ++ key l := by simp [key]
    rw [this, List.length_append, ih]
    have : tot (a :: l) = a.size + tot l := by simp [tot]
    rw [this]
    simp only [recd, List.length_append, le_len, len_list, List.length_cons]
    omega
/-! ### PutUint32 -/
theorem set_block {w : World} {g o : Nat} {cs : Array Value} {T : Nat} (h : w.heap[g]? = some (.cells cs T (0, 0))) (u : Value) : (w.setCell ⟨g, o, none⟩ u).heap[g]? = some (.cells (cs.setIfInBounds o u) T (0, 0)) := by
  simp [World.setCell, Array.getElem?_modify, h]
theorem grown_set {a w : World} {g o : Nat} (h : a.grownBy w (some g)) (u : Value) : a.grownBy (w.setCell ⟨g, o, none⟩ u) (some g) :=
  ⟨h.os, h.tape, h.output, by simpa using h.size, fun i hi hn => (Below.heap_setCell w ⟨g, o, none⟩ u i (fun e => hn (by rw [e]))).trans (h.block i hi hn)⟩
def Put (g v : Nat) (w w' : World) : Prop := w'.heap[g]? = some (.cells (bv (Lib.leBytes 4 v)).toArray 33 (0, 0)) ∧ w.grownBy w' (some g)
theorem put_any (g v : Nat) (q : List UInt8) (w : World) (hg : w.heap[g]? = some (.cells (bv q).toArray 33 (0, 0))) (hq : q.length = 4) (hv : v < 4294967296) :
    Calls Try.prog 10 #[.agg #[], .slice (some ⟨g, 0, none⟩) 4 4, .int .u32 v] w fun e w' => e = .returned (.tuple #[]) ∧ Put g v w w' := by
  obtain ⟨q0, q1, q2, q3, rfl⟩ : ∃ q0 q1 q2 q3, q = [q0, q1, q2, q3] := by
    match q, hq with
    | [q0, q1, q2, q3], _ => exact ⟨_, _, _, _, rfl⟩
  have hc := fun j => Lib.cell_of_heap hg j
  have hf := fun j => Lib.frozen_of_heap hg j
  refine (Try.binary_LE_PutUint32 g 0 4 4 v hv _ _ _ _ w (Nat.le_refl _) (hc 0) (hc 1) (hc 2) (hc 3) (hf 0) (hf 1) (hf 2) (hf 3)).mono ?_
  rintro e w' ⟨rfl, rfl⟩
  have h0 : (w.alloc (.cells #[] 35)).heap[g]? = some (.cells (bv [q0, q1, q2, q3]).toArray 33 (0, 0)) := (Below.heap_alloc w _ g (lt_of_block hg)).trans hg
  refine ⟨rfl, ?_, ?_⟩
  · exact set_block (set_block (set_block (set_block h0 _) _) _) _
  · exact grown_set (grown_set (grown_set (grown_set (World.grownBy_alloc w _ _) _) _) _) _
theorem Bu.put {B b g v : Nat} {l : List UInt8} {w w' : World} {q : List UInt8} (h : Bu B b l w) (hp : Put g v w w') (hg : w.heap[g]? = some (.cells (bv q).toArray 33 (0, 0))) : Bu B b l w' := by
  have key : ∀ p, Lib.BuilderAt 32 5 B b p (Lib.byteCells l) w → Lib.BuilderAt 32 5 B b p (Lib.byteCells l) w' := by
    rintro p ⟨hB, u, hb, hown, hne⟩
    have n1 : b ≠ g := by
      rintro rfl
      rw [hb] at hg; injection hg with hg; injection hg with _ ht; exact absurd ht (by decide)
    refine ⟨hB, u, (hp.2.block b (lt_of_block hb) (fun e => n1 (by injection e))).trans hb, Own.to (e := 5) hown hp.2 ?_, hne⟩
    right
    exact Lib.ownBlock_ne hown hg (by decide)
  rcases h with h | h
  · exact .inl (key _ h)
  · exact .inr (key _ h)
/-! ### mapKeyForDefine -/
theorem Bu.more {B b : Nat} {l : List UInt8} {w w' : World} (h : Chk B b l w w') : Bu B b l w' := .inr h.1
set_option maxHeartbeats 1000000 in
theorem key_any (A : Option Addr) (n c : Nat) (l : List ByteArray) (w : World) (hl : l.length = n) (hn : n ≤ 1048576) (ht : tot l ≤ 1048576) (hr : Rd w w.heap.size A (sv l)) :
    Calls Try.prog 9 #[.slice A n c] w fun e w' => e = .returned (.string ⟨(key l).toArray⟩) ∧ Below w.heap.size w w' := by
  have HL := Lib.hid hl; have HR := Lib.hid hr; have HT := Lib.hid ht
  clear hl hr ht
  go_enter Try.func9, Try.ntmps9
  go_wp2
  go_loopw [9] (fun i wr => ∃ k : Nat, k ≤ n ∧ i = .int .i64 k ∧ Bu w.heap.size w.heap.size (key (l.take k)) wr ∧ (∃ q : List UInt8, q.length = 4 ∧ wr.heap[w.heap.size + 1]? = some (.cells (bv q).toArray 33 (0, 0))) ∧ Below w.heap.size w wr) (fun i _ => n - (intOf i).toNat)
  case atStart =>
    refine ⟨0, by omega, rfl, ?_, ⟨[0, 0, 0, 0], rfl, ?_⟩, ((Below.refl _ _).alloc (Nat.le_refl _) _).alloc (by simp) _⟩
    · obtain h := Lib.fresh_isBuilder 32 5 w
      rw [List.take_zero]
      rcases h with ⟨h1, v, h2, h3, h4⟩ | ⟨h1, v, h2, h3, h4⟩
      · exact .inl ⟨h1, v, (Below.heap_alloc _ _ _ (by simp)).trans h2, World.ownsRow.alloc h3 _, h4⟩
      · exact .inr ⟨h1, v, (Below.heap_alloc _ _ _ (by simp)).trans h2, World.ownsRow.alloc h3 _, h4⟩
    · have := heap_alloc_new (w.alloc (.cells #[.pointer none, .slice none 0 0] 32)) (.cells #[.int .u8 0, .int .u8 0, .int .u8 0, .int .u8 0] 33)
      simp only [World.size_alloc] at this
      exact this
  case round =>
    obtain ⟨k, hk, rfl, hbu, ⟨q, hq, hg⟩, hbel⟩ := hrel
    by_cases hlt : k < n
    · have hkl : k < l.length := by rw [HL.out]; exact hlt
      obtain ⟨x, rfl, hxb, hxc⟩ := HR.out.at_ (sv_at l k hkl)
      have cx : wr.cell? (x.add k) = some (.string l[k]) := by rw [hbel.cell (by rw [add_block]; exact hxb)]; exact hxc
      have hz : l[k].size ≤ 1048576 := by
        have := tot_step l k hkl; have := tot_le l (k + 1); have := HT.out; omega
      have hkey : (key (l.take k)).length ≤ 5242880 := by
        rw [key_len, List.length_take]
        have := tot_le l k; have := HT.out; omega
      have hks := key_step l k hkl
      have KS := Lib.hid hks
      have HBU := Lib.hid hbu; have HQ := Lib.hid hq; have HG := Lib.hid hg; have HB := Lib.hid hbel; have HKEY := Lib.hid hkey
      clear hbu hq hg hbel hxc hks hkey
      obtain ⟨s, hs⟩ : ∃ s, s = l[k] := ⟨_, rfl⟩
      rw [← hs] at cx hz
      have HS := Lib.hid hs
      clear hs
      have hcv : IntKind.u32.wrap (s.size : Int) = s.size := by rw [IntKind.wrap_u32]; omega
      go_wp2
      go_region_held3 (fun w' => True) (trivial)
        ((go_at_call 10; refine (put_any (w.heap.size + 1) s.size q wr.drew HG.out HQ.out (by omega)).mono ?_; rintro e w1 ⟨rfl, hput⟩))
      have hb1 : Bu w.heap.size w.heap.size (key (l.take k)) w1 := Bu.put (w := wr.drew) HBU.out hput HG.out
      have hz1 : wr.heap.size ≤ w1.heap.size := hput.2.size
      have hz0 : w.heap.size ≤ wr.heap.size := HB.out.size
      have hB1 : Below w.heap.size w w1 := HB.out.drew.grown hput.2 hz0 (fun g hg => by injection hg with hg; omega)
      have W1 := Lib.hid (write_any w.heap.size w.heap.size (key (l.take k)) (Lib.leBytes 4 s.size) (w.heap.size + 1) 4 4 w1 (le_len _) (by omega) hb1 (by omega) (by have := HKEY.out; omega) hput.1)
      have HP1 := Lib.hid hput.1
      have HB1 := Lib.hid hB1
      clear hput hb1 hB1 hcv
      go_wp2_with fail
      refine W1.out.mono ?_
      rintro e w2 ⟨rfl, hc2⟩
      have hz2 := hc2.2.1.size
      have hp2 := hc2.2.2 _ _ HP1.out
      have W2 := Lib.hid (writeString_any w.heap.size w.heap.size (key (l.take k) ++ Lib.leBytes 4 s.size) s w2 (Bu.more hc2) (by omega) (by rw [List.length_append, le_len]; have := HKEY.out; omega))
      have HB2 := Lib.hid (HB1.out.trans hc2.2.1)
      have HP2 := Lib.hid hp2
      clear hc2 hp2
      go_wp2_with fail
      refine W2.out.mono ?_
      rintro e w3 ⟨rfl, hc3⟩
      have hp3 := Lib.hid (hc3.2.2 _ _ HP2.out)
      have HB3 := Lib.hid (HB2.out.trans hc3.2.1)
      have HU3 : Hid (Bu w.heap.size w.heap.size (key (l.take (k + 1))) w3) := Lib.hid (by rw [KS.out, ← HS.out]; exact Bu.more hc3)
      clear hc3
      go_wp2
      go_roundw
      case rel => exact ⟨k + 1, by omega, by go_num, HU3.out, ⟨_, le_len _, hp3.out⟩, HB3.out⟩
      case measure => simp [intOf]; omega
    · obtain rfl : k = n := by omega
      have hB := hbel.size
      rw [List.take_of_length_le (by rw [HL.out]; omega)] at hbu
      have S := Lib.hid (Try.Builder_String_any w.heap.size w.heap.size (key l) wr hbu hB)
      have HB := Lib.hid hbel
      clear hbu hg hq hbel
      go_wp2_with fail
      refine S.out.mono ?_
      rintro e w1 ⟨rfl, hb1⟩
      have HB1 := Lib.hid (HB.out.trans hb1)
      clear hb1
      go_wp2
      go_ret
      exact ⟨rfl, HB1.out⟩
theorem zz_any (A : Option Addr) (n c : Nat) (l : List ByteArray) (w : World) (hl : l.length = n) (hn : n ≤ 1048576) (ht : tot l ≤ 1048576) (hr : Rd w w.heap.size A (sv l)) :
    Calls Try.prog 7 #[.slice A n c] w fun e w' => e = .returned (.string ⟨(key l).toArray⟩) ∧ Below w.heap.size w w' := by
  have K := Lib.hid (key_any A n c l w hl hn ht hr)
  clear hl hn ht hr
  go_enter Try.func7, Try.ntmps7
  go_wp2_with fail
  refine K.out.mono ?_
  rintro e w' ⟨rfl, hb⟩
  go_wp2
  go_ret
  exact ⟨rfl, hb⟩
end Go.Proofs.Ytefkeccjnhkjeaa.Key
