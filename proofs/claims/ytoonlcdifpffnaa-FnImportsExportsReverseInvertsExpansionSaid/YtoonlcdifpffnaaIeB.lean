/- A string target held against the query exactly; the entries in turn; no expansion keys. Conditions: at most 65537 entries. -/
import Derived.Test.YtoonlcdifpffnaaIeA
import Derived.Test.YtoonlcdifpffnaaShelf
import Derived.RegionTactic
import Derived.ChangeAlike
namespace Go.Proofs.Ytoonlcdifpffnaa.IeB
open Go.RowKit Go.Deep Go.Proofs.Ytoonlcdifpffnaa.Base Go.Proofs.Ytoonlcdifpffnaa.IeA
set_option linter.unusedVariables false
def tok (b : Bool) (st ln : Int) : Value := .agg #[.int .i32 (if b then st else 0), .int .i32 (if b then ln else 0)]
def two (x y : Int) : Nat → Value
  | 0 => .int .i32 x
  | _ => .int .i32 y
def ans (b : Bool) (key : ByteArray) (st ln : Int) : Value := .tuple #[.bool b, .string (if b then key else { data := #[] }), tok b st ln]
theorem ans_t (key : ByteArray) (st ln : Int) : ans true key st ln = .tuple #[.bool true, .string key, .agg #[.int .i32 st, .int .i32 ln]] := rfl
theorem ans_f (key : ByteArray) (st ln : Int) : ans false key st ln = .tuple #[.bool false, .string { data := #[] }, .agg #[.int .i32 0, .int .i32 0]] := rfl
theorem row2 (w : World) : (w.alloc (.cells #[.int .i32 0, .int .i32 0] 31)).rowIs w.heap.size 31 2 (two 0 0) :=
  World.rowIs_alloc w #[.int .i32 0, .int .i32 0] 31 _ (fun i hi => by
    match i, hi with
    | 0, _ => rfl
    | 1, _ => rfl)
set_option maxRecDepth 20000 in
set_option maxHeartbeats 2000000 in
theorem rev19 (rq : Array Value) (q key s : ByteArray) (st ln : Int) (w : World) :
    Calls Try.prog 19 #[.agg rq, .string q, .string key, .agg #[.string s, .slice none 0 0, .slice none 0 0, .slice none 0 0, .int .i32 st, .int .i32 ln, .int .u8 1], .int .u8 0, .map none] w fun e w' => e = .returned (ans (decide (q = s)) key st ln) ∧ Below w.heap.size w w' := by
  have E := eq_toList q s
  by_cases h : q = s
  · subst h
    rw [decide_eq_true rfl] at E
    rw [decide_eq_true (rfl : q = q)]
    go_enter Try.func19, Try.ntmps19
    go_wp2
    go_region
    all_goals go_wp2
    all_goals
      go_returns
      exact ⟨rfl, ((((Below.refl _ _).alloc (Nat.le_refl _) _).alloc (by simp only [World.size_alloc]; omega) _).alloc (by simp only [World.size_alloc]; omega) _).drew⟩
  · rw [decide_eq_false h] at E
    rw [decide_eq_false h]
    go_enter Try.func19, Try.ntmps19
    go_wp2
    go_returns
    exact ⟨rfl, ((((Below.refl _ _).alloc (Nat.le_refl _) _).alloc (by simp only [World.size_alloc]; omega) _).alloc (by simp only [World.size_alloc]; omega) _)⟩
theorem rev19t (rq : Array Value) (q key s : ByteArray) (st ln : Int) (w : World) (h : q = s) :
    Calls Try.prog 19 #[.agg rq, .string q, .string key, .agg #[.string s, .slice none 0 0, .slice none 0 0, .slice none 0 0, .int .i32 st, .int .i32 ln, .int .u8 1], .int .u8 0, .map none] w fun e w' => e = .returned (.tuple #[.bool true, .string key, .agg #[.int .i32 st, .int .i32 ln]]) ∧ Below w.heap.size w w' := by
  have := rev19 rq q key s st ln w
  rw [decide_eq_true h, ans_t] at this
  exact this
theorem rev19f (rq : Array Value) (q key s : ByteArray) (st ln : Int) (w : World) (h : ¬ q = s) :
    Calls Try.prog 19 #[.agg rq, .string q, .string key, .agg #[.string s, .slice none 0 0, .slice none 0 0, .slice none 0 0, .int .i32 st, .int .i32 ln, .int .u8 1], .int .u8 0, .map none] w fun e w' => e = .returned (.tuple #[.bool false, .string { data := #[] }, .agg #[.int .i32 0, .int .i32 0]]) ∧ Below w.heap.size w w' := by
  have := rev19 rq q key s st ln w
  rw [decide_eq_false h, ans_f] at this
  exact this
end Go.Proofs.Ytoonlcdifpffnaa.IeB
