/- The small functions of the law: the two guards, and quoteOrNullIfEmpty, whose text is asked of fmt. -/
import Derived.Test.YtdejboelpcnigaaFmtRows
import Derived.WalkKit
import Derived.WalkSpells
import Derived.WalkLawsBesides
import Derived.Test.YtdejboelpcnigaaFmtSls
import Derived.Stop.CallBack
import Derived.Stop.IfaceNil
import GoSem.ClaimData
namespace Go.Proofs.YtdejboelpcnigaaFmt.Qa
open Go.RowKit Go.Extern.Stop Go.Stop Go.Extern Go.Proofs.YtdejboelpcnigaaFmt.Base
set_option linter.unusedVariables false

set_option maxHeartbeats 800000 in
theorem bytes4 (s : ByteArray) (w : World) (hs : s.size ≤ maxLen) :
    Calls Tryf.prog 4 #[.string s] w fun e w' => e = .returned (.bool (decide (s.size ≤ 1048576))) ∧ w' = w := by
  go_enter Tryf.func4, Tryf.ntmps4
  go_wp2
  all_goals
    go_ret
    simp_all
    try omega

set_option maxHeartbeats 800000 in
theorem one5 (s : ByteArray) (w : World) (hs : s.size ≤ maxLen) (h1 : s.size ≤ 1048576) :
    Calls Tryf.prog 5 #[.string s] w fun e w' => e = .returned (.int .i64 s.size) ∧ w' = w := by
  go_enter Tryf.func5, Tryf.ntmps5
  go_wp2
  all_goals first
    | (exfalso; simp_all; omega)
    | (go_ret; exact ⟨rfl, rfl⟩)

@[go_sem] theorem call9 (args : Array Value) (w : World) : (callFunc 9 args).run Tryf.prog w = ((FmtStop.sprintf #[9, 44] #[9] args).run Tryf.prog w).andThen fun v w' => .ok (.value v) w' :=
  run_callFunc_extern Tryf.func9 (by kernel_rfl) (by kernel_rfl) (by kernel_rfl) (by kernel_rfl) args w
@[go_sem] theorem guard (name : String) (w : World) : (FmtStop.guard name).run Tryf.prog w = .ok () w := by kernel_rfl
@[go_sem] theorem fmt0 : FmtStop.printed? ⟨#[37, 113]⟩ 1 = some [(0, 113, false)] := by kernel_rfl
@[go_sem] theorem fmt0r (w : World) : (FmtDoors.printed ⟨#[37, 113]⟩ 1).run Tryf.prog w = .ok [(0, 113, false)] w := by kernel_rfl
def shape9 : List UInt8 := [12, 6, 0, 0, 0, 0, 0, 0, 0, 115, 116, 114, 105, 110, 103]
@[go_sem] theorem op9_113 (name : String) (x : ByteArray) (w : World) : (FmtStop.operand name false 113 false (.iface 9 (.string x))).run Tryf.prog w = .ok (shape9, FmtStop.pack x.data.toList) w := by kernel_rfl

/-- What fmt.Sprintf is asked. -/
def reading (s : ByteArray) : List (List UInt8) := [[37, 113], shape9, FmtStop.pack s.data.toList]

set_option maxHeartbeats 800000 in
theorem quote8 (F : Interp) (s : ByteArray) (w : World) (hF : F.answers w.tape) (hs : s.size ≤ maxLen) (hn : 0 < s.size) :
    Calls Tryf.prog 8 #[.string s] w fun e w' => e = .returned (.string (FmtStop.textOf (F "fmt.Sprintf" (reading s) 0))) ∧ Below w.heap.size w w' := by
  have hF' := answers_open hF
  have hne : (!s.toList.isEmpty) = true := by rw [Lib.toList_data]; cases h : s.data.toList with
    | nil => have := len_list s; rw [h] at this; simp at this; omega
    | cons a l => rfl
  go_enter Tryf.func8, Tryf.ntmps8
  go_wp2
  all_goals first
    | (exfalso; simp_all; done)
    | (go_ret; exact ⟨rfl, (Below.alloc (Below.refl _ _) (Nat.le_refl _) _).drew⟩)

set_option maxHeartbeats 800000 in
theorem empty8 (s : ByteArray) (w : World) (hn : s.size = 0) :
    Calls Tryf.prog 8 #[.string s] w fun e w' => e = .returned (.string ⟨#[110, 117, 108, 108]⟩) ∧ w' = w := by
  have hne : (!s.toList.isEmpty) = false := by rw [Lib.toList_data]; cases h : s.data.toList with
    | nil => rfl
    | cons a l => have := len_list s; rw [h] at this; simp at this; omega
  go_enter Tryf.func8, Tryf.ntmps8
  go_wp2
  all_goals first
    | (exfalso; simp_all; done)
    | (go_ret; exact ⟨rfl, rfl⟩)

set_option maxHeartbeats 800000 in
theorem quote6 (F : Interp) (s : ByteArray) (w : World) (hF : F.answers w.tape) (hs : s.size ≤ maxLen) (hn : 0 < s.size) :
    Calls Tryf.prog 6 #[.string s] w fun e w' => e = .returned (.string (FmtStop.textOf (F "fmt.Sprintf" (reading s) 0))) ∧ Below w.heap.size w w' := by
  have hF' := answers_open hF
  have hne : (!s.toList.isEmpty) = true := by rw [Lib.toList_data]; cases h : s.data.toList with
    | nil => have := len_list s; rw [h] at this; simp at this; omega
    | cons a l => rfl
  go_enter Tryf.func6, Tryf.ntmps6
  go_wp2
  all_goals first
    | (exfalso; simp_all; done)
    | (go_ret; exact ⟨rfl, (Below.alloc (Below.refl _ _) (Nat.le_refl _) _).drew⟩)

set_option maxHeartbeats 800000 in
theorem empty6 (s : ByteArray) (w : World) (hn : s.size = 0) :
    Calls Tryf.prog 6 #[.string s] w fun e w' => e = .returned (.string ⟨#[110, 117, 108, 108]⟩) ∧ w' = w := by
  have hne : (!s.toList.isEmpty) = false := by rw [Lib.toList_data]; cases h : s.data.toList with
    | nil => rfl
    | cons a l => have := len_list s; rw [h] at this; simp at this; omega
  go_enter Tryf.func6, Tryf.ntmps6
  go_wp2
  all_goals first
    | (exfalso; simp_all; done)
    | (go_ret; exact ⟨rfl, rfl⟩)

end Go.Proofs.YtdejboelpcnigaaFmt.Qa
