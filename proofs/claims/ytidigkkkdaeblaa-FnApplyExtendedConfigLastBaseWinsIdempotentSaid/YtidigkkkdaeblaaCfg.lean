/- mkTSConfig and applyExtendedConfig by their contracts: the first lays a config whose pointers are set as the mask says; the second lets each field that the base sets win. No condition. -/
import Derived.Test.YtidigkkkdaeblaaRows
import Derived.Test.YtidigkkkdaeblaaBase
import Derived.WalkKit
import Derived.ProofKit
import Derived.OpenShut
import Derived.ShutString
import Derived.WalkLawsBesides
import Derived.WalkSpells
import Derived.Handy
import Derived.Outline
import Derived.RegionTactic
import Derived.Deep.QuietTactic
import Derived.BigQuiet
import Derived.Deep.OwnRows
namespace Go.Proofs.Ytidigkkkdaeblaa.Cfg
open Go.ChangeShapes Go.WideShapes Go.ChangeAt Go.RowKit Go.Deep Go.Proofs.Ytidigkkkdaeblaa.Base
set_option linter.unusedVariables false
def cfg (s f l : ByteArray) (n : Int) (pU pP pS pA : Option Addr) : Array Value := #[.string s, .pointer pU, .string f, .pointer pP, .string l, .string { data := #[] }, .string { data := #[] }, .string { data := #[] }, .string { data := #[] }, .string { data := #[] }, .string { data := #[] }, .string { data := #[] }, .string { data := #[] }, .int .u8 0, .int .u32 0, .int .i32 0, .int .i32 n, .pointer pS, .pointer pA, .slice none 0 0, .slice none 0 0, .pointer none, .int .u8 0, .int .u8 0, .int .u8 0, .int .u8 0, .int .u8 0, .int .u8 0, .int .u8 0]
/-- What mkTSConfig has made: block B holds the config; a pointer is set just where the mask's bit is. -/
def Made (B : Nat) (s f l : ByteArray) (n : Int) (m : Int) (w : World) (e : Ending) (w' : World) : Prop :=
  ∃ pU pP pS pA : Option Addr, e = .returned (.pointer (some ⟨B, 0, none⟩)) ∧ w'.heap[B]? = some (.cells (cfg s f l n pU pP pS pA) 53 (0, 0)) ∧ Below B w w' ∧
    (bits .and .u8 m 1 != 0) = pS.isSome ∧ (bits .and .u8 m 2 != 0) = pA.isSome ∧ (bits .and .u8 m 4 != 0) = pU.isSome ∧ (bits .and .u8 m 8 != 0) = pP.isSome
theorem block_past {w : World} {o o' : Obj} {b : Nat} (h : w.heap[b]? = some o) : (w.alloc o').heap[b]? = some o := by
  have hlt : b < w.heap.size := by
    rcases Nat.lt_or_ge b w.heap.size with h1 | h1
    · exact h1
    · rw [Array.getElem?_eq_none h1] at h; cases h
  rw [blk_alloc_lt _ _ _ hlt]; exact h
theorem mk_0 (s l u f : ByteArray) (n m : Int) (w : World) (h1 : (bits .and .u8 m 1 != 0) = false) (h2 : (bits .and .u8 m 2 != 0) = false) (h4 : (bits .and .u8 m 4 != 0) = false) (h8 : (bits .and .u8 m 8 != 0) = false) :
    Calls Try.prog 5 #[.string s, .string l, .int .i32 n, .int .u8 m, .string u, .string f] w (Made w.heap.size s f l n m w) := by
  have k1 := Lib.hid h1; have k2 := Lib.hid h2; have k4 := Lib.hid h4; have k8 := Lib.hid h8
  go_enter Try.func5, Try.ntmps5
  go_wp2
  go_ret
  refine ⟨none, none, none, none, rfl, ?_, ?_, k1.out, k2.out, k4.out, k8.out⟩
  · repeat (first | exact blk_alloc_new _ _ | refine block_past ?_)
  · go_grown
theorem mk_1 (s l u f : ByteArray) (n m : Int) (w : World) (h1 : (bits .and .u8 m 1 != 0) = true) (h2 : (bits .and .u8 m 2 != 0) = false) (h4 : (bits .and .u8 m 4 != 0) = false) (h8 : (bits .and .u8 m 8 != 0) = false) :
    Calls Try.prog 5 #[.string s, .string l, .int .i32 n, .int .u8 m, .string u, .string f] w (Made w.heap.size s f l n m w) := by
  have k1 := Lib.hid h1; have k2 := Lib.hid h2; have k4 := Lib.hid h4; have k8 := Lib.hid h8
  go_enter Try.func5, Try.ntmps5
  go_wp2
  go_ret
  refine ⟨none, none, (some ⟨w.heap.size + 1, 0, none⟩), none, rfl, ?_, ?_, k1.out, k2.out, k4.out, k8.out⟩
  · repeat (first | exact blk_alloc_new _ _ | refine block_past ?_)
  · go_grown
theorem mk_2 (s l u f : ByteArray) (n m : Int) (w : World) (h1 : (bits .and .u8 m 1 != 0) = false) (h2 : (bits .and .u8 m 2 != 0) = true) (h4 : (bits .and .u8 m 4 != 0) = false) (h8 : (bits .and .u8 m 8 != 0) = false) :
    Calls Try.prog 5 #[.string s, .string l, .int .i32 n, .int .u8 m, .string u, .string f] w (Made w.heap.size s f l n m w) := by
  have k1 := Lib.hid h1; have k2 := Lib.hid h2; have k4 := Lib.hid h4; have k8 := Lib.hid h8
  go_enter Try.func5, Try.ntmps5
  go_wp2
  go_ret
  refine ⟨none, none, none, (some ⟨w.heap.size + 1, 0, none⟩), rfl, ?_, ?_, k1.out, k2.out, k4.out, k8.out⟩
  · repeat (first | exact blk_alloc_new _ _ | refine block_past ?_)
  · go_grown
theorem mk_3 (s l u f : ByteArray) (n m : Int) (w : World) (h1 : (bits .and .u8 m 1 != 0) = true) (h2 : (bits .and .u8 m 2 != 0) = true) (h4 : (bits .and .u8 m 4 != 0) = false) (h8 : (bits .and .u8 m 8 != 0) = false) :
    Calls Try.prog 5 #[.string s, .string l, .int .i32 n, .int .u8 m, .string u, .string f] w (Made w.heap.size s f l n m w) := by
  have k1 := Lib.hid h1; have k2 := Lib.hid h2; have k4 := Lib.hid h4; have k8 := Lib.hid h8
  go_enter Try.func5, Try.ntmps5
  go_wp2
  go_ret
  refine ⟨none, none, (some ⟨w.heap.size + 1, 0, none⟩), (some ⟨w.heap.size + 1 + 1, 0, none⟩), rfl, ?_, ?_, k1.out, k2.out, k4.out, k8.out⟩
  · repeat (first | exact blk_alloc_new _ _ | refine block_past ?_)
  · go_grown
theorem mk_4 (s l u f : ByteArray) (n m : Int) (w : World) (h1 : (bits .and .u8 m 1 != 0) = false) (h2 : (bits .and .u8 m 2 != 0) = false) (h4 : (bits .and .u8 m 4 != 0) = true) (h8 : (bits .and .u8 m 8 != 0) = false) :
    Calls Try.prog 5 #[.string s, .string l, .int .i32 n, .int .u8 m, .string u, .string f] w (Made w.heap.size s f l n m w) := by
  have k1 := Lib.hid h1; have k2 := Lib.hid h2; have k4 := Lib.hid h4; have k8 := Lib.hid h8
  go_enter Try.func5, Try.ntmps5
  go_wp2
  go_ret
  refine ⟨(some ⟨w.heap.size + 1, 0, none⟩), none, none, none, rfl, ?_, ?_, k1.out, k2.out, k4.out, k8.out⟩
  · repeat (first | exact blk_alloc_new _ _ | refine block_past ?_)
  · go_grown
theorem mk_5 (s l u f : ByteArray) (n m : Int) (w : World) (h1 : (bits .and .u8 m 1 != 0) = true) (h2 : (bits .and .u8 m 2 != 0) = false) (h4 : (bits .and .u8 m 4 != 0) = true) (h8 : (bits .and .u8 m 8 != 0) = false) :
    Calls Try.prog 5 #[.string s, .string l, .int .i32 n, .int .u8 m, .string u, .string f] w (Made w.heap.size s f l n m w) := by
  have k1 := Lib.hid h1; have k2 := Lib.hid h2; have k4 := Lib.hid h4; have k8 := Lib.hid h8
  go_enter Try.func5, Try.ntmps5
  go_wp2
  go_ret
  refine ⟨(some ⟨w.heap.size + 1 + 1, 0, none⟩), none, (some ⟨w.heap.size + 1, 0, none⟩), none, rfl, ?_, ?_, k1.out, k2.out, k4.out, k8.out⟩
  · repeat (first | exact blk_alloc_new _ _ | refine block_past ?_)
  · go_grown
theorem mk_6 (s l u f : ByteArray) (n m : Int) (w : World) (h1 : (bits .and .u8 m 1 != 0) = false) (h2 : (bits .and .u8 m 2 != 0) = true) (h4 : (bits .and .u8 m 4 != 0) = true) (h8 : (bits .and .u8 m 8 != 0) = false) :
    Calls Try.prog 5 #[.string s, .string l, .int .i32 n, .int .u8 m, .string u, .string f] w (Made w.heap.size s f l n m w) := by
  have k1 := Lib.hid h1; have k2 := Lib.hid h2; have k4 := Lib.hid h4; have k8 := Lib.hid h8
  go_enter Try.func5, Try.ntmps5
  go_wp2
  go_ret
  refine ⟨(some ⟨w.heap.size + 1 + 1, 0, none⟩), none, none, (some ⟨w.heap.size + 1, 0, none⟩), rfl, ?_, ?_, k1.out, k2.out, k4.out, k8.out⟩
  · repeat (first | exact blk_alloc_new _ _ | refine block_past ?_)
  · go_grown
theorem mk_7 (s l u f : ByteArray) (n m : Int) (w : World) (h1 : (bits .and .u8 m 1 != 0) = true) (h2 : (bits .and .u8 m 2 != 0) = true) (h4 : (bits .and .u8 m 4 != 0) = true) (h8 : (bits .and .u8 m 8 != 0) = false) :
    Calls Try.prog 5 #[.string s, .string l, .int .i32 n, .int .u8 m, .string u, .string f] w (Made w.heap.size s f l n m w) := by
  have k1 := Lib.hid h1; have k2 := Lib.hid h2; have k4 := Lib.hid h4; have k8 := Lib.hid h8
  go_enter Try.func5, Try.ntmps5
  go_wp2
  go_ret
  refine ⟨(some ⟨w.heap.size + 1 + 1 + 1, 0, none⟩), none, (some ⟨w.heap.size + 1, 0, none⟩), (some ⟨w.heap.size + 1 + 1, 0, none⟩), rfl, ?_, ?_, k1.out, k2.out, k4.out, k8.out⟩
  · repeat (first | exact blk_alloc_new _ _ | refine block_past ?_)
  · go_grown
theorem mk_8 (s l u f : ByteArray) (n m : Int) (w : World) (h1 : (bits .and .u8 m 1 != 0) = false) (h2 : (bits .and .u8 m 2 != 0) = false) (h4 : (bits .and .u8 m 4 != 0) = false) (h8 : (bits .and .u8 m 8 != 0) = true) :
    Calls Try.prog 5 #[.string s, .string l, .int .i32 n, .int .u8 m, .string u, .string f] w (Made w.heap.size s f l n m w) := by
  have k1 := Lib.hid h1; have k2 := Lib.hid h2; have k4 := Lib.hid h4; have k8 := Lib.hid h8
  go_enter Try.func5, Try.ntmps5
  go_wp2
  go_ret
  refine ⟨none, (some ⟨w.heap.size + 1, 0, none⟩), none, none, rfl, ?_, ?_, k1.out, k2.out, k4.out, k8.out⟩
  · repeat (first | exact blk_alloc_new _ _ | refine block_past ?_)
  · go_grown
theorem mk_9 (s l u f : ByteArray) (n m : Int) (w : World) (h1 : (bits .and .u8 m 1 != 0) = true) (h2 : (bits .and .u8 m 2 != 0) = false) (h4 : (bits .and .u8 m 4 != 0) = false) (h8 : (bits .and .u8 m 8 != 0) = true) :
    Calls Try.prog 5 #[.string s, .string l, .int .i32 n, .int .u8 m, .string u, .string f] w (Made w.heap.size s f l n m w) := by
  have k1 := Lib.hid h1; have k2 := Lib.hid h2; have k4 := Lib.hid h4; have k8 := Lib.hid h8
  go_enter Try.func5, Try.ntmps5
  go_wp2
  go_ret
  refine ⟨none, (some ⟨w.heap.size + 1 + 1, 0, none⟩), (some ⟨w.heap.size + 1, 0, none⟩), none, rfl, ?_, ?_, k1.out, k2.out, k4.out, k8.out⟩
  · repeat (first | exact blk_alloc_new _ _ | refine block_past ?_)
  · go_grown
theorem mk_10 (s l u f : ByteArray) (n m : Int) (w : World) (h1 : (bits .and .u8 m 1 != 0) = false) (h2 : (bits .and .u8 m 2 != 0) = true) (h4 : (bits .and .u8 m 4 != 0) = false) (h8 : (bits .and .u8 m 8 != 0) = true) :
    Calls Try.prog 5 #[.string s, .string l, .int .i32 n, .int .u8 m, .string u, .string f] w (Made w.heap.size s f l n m w) := by
  have k1 := Lib.hid h1; have k2 := Lib.hid h2; have k4 := Lib.hid h4; have k8 := Lib.hid h8
  go_enter Try.func5, Try.ntmps5
  go_wp2
  go_ret
  refine ⟨none, (some ⟨w.heap.size + 1 + 1, 0, none⟩), none, (some ⟨w.heap.size + 1, 0, none⟩), rfl, ?_, ?_, k1.out, k2.out, k4.out, k8.out⟩
  · repeat (first | exact blk_alloc_new _ _ | refine block_past ?_)
  · go_grown
theorem mk_11 (s l u f : ByteArray) (n m : Int) (w : World) (h1 : (bits .and .u8 m 1 != 0) = true) (h2 : (bits .and .u8 m 2 != 0) = true) (h4 : (bits .and .u8 m 4 != 0) = false) (h8 : (bits .and .u8 m 8 != 0) = true) :
    Calls Try.prog 5 #[.string s, .string l, .int .i32 n, .int .u8 m, .string u, .string f] w (Made w.heap.size s f l n m w) := by
  have k1 := Lib.hid h1; have k2 := Lib.hid h2; have k4 := Lib.hid h4; have k8 := Lib.hid h8
  go_enter Try.func5, Try.ntmps5
  go_wp2
  go_ret
  refine ⟨none, (some ⟨w.heap.size + 1 + 1 + 1, 0, none⟩), (some ⟨w.heap.size + 1, 0, none⟩), (some ⟨w.heap.size + 1 + 1, 0, none⟩), rfl, ?_, ?_, k1.out, k2.out, k4.out, k8.out⟩
  · repeat (first | exact blk_alloc_new _ _ | refine block_past ?_)
  · go_grown
theorem mk_12 (s l u f : ByteArray) (n m : Int) (w : World) (h1 : (bits .and .u8 m 1 != 0) = false) (h2 : (bits .and .u8 m 2 != 0) = false) (h4 : (bits .and .u8 m 4 != 0) = true) (h8 : (bits .and .u8 m 8 != 0) = true) :
    Calls Try.prog 5 #[.string s, .string l, .int .i32 n, .int .u8 m, .string u, .string f] w (Made w.heap.size s f l n m w) := by
  have k1 := Lib.hid h1; have k2 := Lib.hid h2; have k4 := Lib.hid h4; have k8 := Lib.hid h8
  go_enter Try.func5, Try.ntmps5
  go_wp2
  go_ret
  refine ⟨(some ⟨w.heap.size + 1, 0, none⟩), (some ⟨w.heap.size + 1 + 1, 0, none⟩), none, none, rfl, ?_, ?_, k1.out, k2.out, k4.out, k8.out⟩
  · repeat (first | exact blk_alloc_new _ _ | refine block_past ?_)
  · go_grown
theorem mk_13 (s l u f : ByteArray) (n m : Int) (w : World) (h1 : (bits .and .u8 m 1 != 0) = true) (h2 : (bits .and .u8 m 2 != 0) = false) (h4 : (bits .and .u8 m 4 != 0) = true) (h8 : (bits .and .u8 m 8 != 0) = true) :
    Calls Try.prog 5 #[.string s, .string l, .int .i32 n, .int .u8 m, .string u, .string f] w (Made w.heap.size s f l n m w) := by
  have k1 := Lib.hid h1; have k2 := Lib.hid h2; have k4 := Lib.hid h4; have k8 := Lib.hid h8
  go_enter Try.func5, Try.ntmps5
  go_wp2
  go_ret
  refine ⟨(some ⟨w.heap.size + 1 + 1, 0, none⟩), (some ⟨w.heap.size + 1 + 1 + 1, 0, none⟩), (some ⟨w.heap.size + 1, 0, none⟩), none, rfl, ?_, ?_, k1.out, k2.out, k4.out, k8.out⟩
  · repeat (first | exact blk_alloc_new _ _ | refine block_past ?_)
  · go_grown
theorem mk_14 (s l u f : ByteArray) (n m : Int) (w : World) (h1 : (bits .and .u8 m 1 != 0) = false) (h2 : (bits .and .u8 m 2 != 0) = true) (h4 : (bits .and .u8 m 4 != 0) = true) (h8 : (bits .and .u8 m 8 != 0) = true) :
    Calls Try.prog 5 #[.string s, .string l, .int .i32 n, .int .u8 m, .string u, .string f] w (Made w.heap.size s f l n m w) := by
  have k1 := Lib.hid h1; have k2 := Lib.hid h2; have k4 := Lib.hid h4; have k8 := Lib.hid h8
  go_enter Try.func5, Try.ntmps5
  go_wp2
  go_ret
  refine ⟨(some ⟨w.heap.size + 1 + 1, 0, none⟩), (some ⟨w.heap.size + 1 + 1 + 1, 0, none⟩), none, (some ⟨w.heap.size + 1, 0, none⟩), rfl, ?_, ?_, k1.out, k2.out, k4.out, k8.out⟩
  · repeat (first | exact blk_alloc_new _ _ | refine block_past ?_)
  · go_grown
theorem mk_15 (s l u f : ByteArray) (n m : Int) (w : World) (h1 : (bits .and .u8 m 1 != 0) = true) (h2 : (bits .and .u8 m 2 != 0) = true) (h4 : (bits .and .u8 m 4 != 0) = true) (h8 : (bits .and .u8 m 8 != 0) = true) :
    Calls Try.prog 5 #[.string s, .string l, .int .i32 n, .int .u8 m, .string u, .string f] w (Made w.heap.size s f l n m w) := by
  have k1 := Lib.hid h1; have k2 := Lib.hid h2; have k4 := Lib.hid h4; have k8 := Lib.hid h8
  go_enter Try.func5, Try.ntmps5
  go_wp2
  go_ret
  refine ⟨(some ⟨w.heap.size + 1 + 1 + 1, 0, none⟩), (some ⟨w.heap.size + 1 + 1 + 1 + 1, 0, none⟩), (some ⟨w.heap.size + 1, 0, none⟩), (some ⟨w.heap.size + 1 + 1, 0, none⟩), rfl, ?_, ?_, k1.out, k2.out, k4.out, k8.out⟩
  · repeat (first | exact blk_alloc_new _ _ | refine block_past ?_)
  · go_grown
theorem mk_any (s l u f : ByteArray) (n m : Int) (w : World) :
    Calls Try.prog 5 #[.string s, .string l, .int .i32 n, .int .u8 m, .string u, .string f] w (Made w.heap.size s f l n m w) := by
  cases h1 : (bits .and .u8 m 1 != 0) <;> cases h2 : (bits .and .u8 m 2 != 0) <;> cases h4 : (bits .and .u8 m 4 != 0) <;> cases h8 : (bits .and .u8 m 8 != 0)
  all_goals first
    | exact mk_0 s l u f n m w h1 h2 h4 h8
    | exact mk_1 s l u f n m w h1 h2 h4 h8
    | exact mk_2 s l u f n m w h1 h2 h4 h8
    | exact mk_3 s l u f n m w h1 h2 h4 h8
    | exact mk_4 s l u f n m w h1 h2 h4 h8
    | exact mk_5 s l u f n m w h1 h2 h4 h8
    | exact mk_6 s l u f n m w h1 h2 h4 h8
    | exact mk_7 s l u f n m w h1 h2 h4 h8
    | exact mk_8 s l u f n m w h1 h2 h4 h8
    | exact mk_9 s l u f n m w h1 h2 h4 h8
    | exact mk_10 s l u f n m w h1 h2 h4 h8
    | exact mk_11 s l u f n m w h1 h2 h4 h8
    | exact mk_12 s l u f n m w h1 h2 h4 h8
    | exact mk_13 s l u f n m w h1 h2 h4 h8
    | exact mk_14 s l u f n m w h1 h2 h4 h8
    | exact mk_15 s l u f n m w h1 h2 h4 h8
end Go.Proofs.Ytidigkkkdaeblaa.Cfg
