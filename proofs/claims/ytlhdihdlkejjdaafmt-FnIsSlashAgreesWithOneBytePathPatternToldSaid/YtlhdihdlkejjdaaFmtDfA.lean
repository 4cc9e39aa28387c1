/- NewDeferLog and its closures by contracts. Conditions: the log is free; at most one message. -/
import Derived.Test.YtlhdihdlkejjdaaFmtLocks
import Derived.Test.YtlhdihdlkejjdaaFmtSls
import Derived.Conc.MuLone
import Derived.Defers
import Derived.WalkKit
import Derived.WalkSpells
import Derived.WalkLawsBesides
import Derived.Handy
import Derived.Deep.OwnRows
import Derived.Deep.QuietTactic
import Derived.BigQuiet
namespace Go.Proofs.YtlhdihdlkejjdaaFmt.DfA
open Go.RowKit Go.Deep Go.MuLone Go.Proofs.YtlhdihdlkejjdaaFmt.Base Go.Proofs.YtlhdihdlkejjdaaFmt.Sls
set_option linter.unusedVariables false
theorem run_store_func (a : Addr) (fn : Fn) (x y : Array Value) (w : World) (m : Mode) : (store a (.func fn x y) m).run Tryf.prog w = stored Tryf.prog w a (.func fn x y) m := run_store Tryf.prog w a _ m rfl
def ptr (b : Nat) : Value := .pointer (some ⟨b, 0, none⟩)
/-- The log that NewDeferLog makes: its closures over the blocks K (kind), M (mutex), E (errors?), S (messages). -/
def logv (K M E S : Nat) : Value := .agg #[.func (Fn.func 16) #[] #[ptr K, ptr M, ptr E, ptr S], .func (Fn.func 19) #[] #[ptr M, ptr E], .func (Fn.func 20) #[] #[ptr M, ptr S], .func (Fn.func 21) #[] #[ptr M, ptr S], .int .i8 3, .map none]
theorem at_new (w : World) (o : Obj) (n : Nat) (h : w.heap.size = n) : (w.alloc o).heap[n]? = some o := by rw [← h]; exact heap_alloc_new w o
/-- A log that is free, with these messages. -/
structure Lg (w : World) (K M E S : Nat) (v : Value) : Prop where
  k : w.heap[K]? = some (.cells #[.int .u8 1] 39 (0, 0))
  m : w.heap[M]? = some (.cells #[.int .i32 0, .int .u32 0] 66 (0, 0))
  e : w.heap[E]? = some (.cells #[.bool false] 4 (0, 0))
  s : w.heap[S]? = some (.cells #[v] 60 (0, 0))
set_option maxRecDepth 20000 in
theorem new11 (w : World) : Calls Tryf.prog 11 #[.int .u8 1, .map none] w fun e w' => e = .returned (logv w.heap.size (w.heap.size + 3) (w.heap.size + 4) (w.heap.size + 2)) ∧ Below w.heap.size w w' ∧ Lg w' w.heap.size (w.heap.size + 3) (w.heap.size + 4) (w.heap.size + 2) (.slice none 0 0) := by
  have hmf : ∀ (fn : Fn) (first cap : Array Value) (w : World), (Instr.makeFunc fn first cap).run Tryf.prog w = .ok (.func fn first cap) w := fun _ _ _ _ => rfl
  have hsf := run_store_func
  go_enter Tryf.func11, Tryf.ntmps11
  go_wp2
  go_returns
  refine ⟨rfl, ((((((Below.refl _ _).alloc (Nat.le_refl _) _).alloc (by simp only [World.size_alloc]; omega) _).alloc (by simp only [World.size_alloc]; omega) _).alloc (by simp only [World.size_alloc]; omega) _).alloc (by simp only [World.size_alloc]; omega) _), ?_⟩
  refine ⟨?_, ?_, ?_, ?_⟩
  · repeat rw [blk_alloc_lt _ _ _ (by simp only [World.size_alloc]; omega)]
    exact heap_alloc_new w _
  · rw [blk_alloc_lt _ _ _ (by simp only [World.size_alloc]; omega)]
    exact at_new _ _ _ (by simp only [World.size_alloc])
  · exact at_new _ _ _ (by simp only [World.size_alloc])
  · repeat rw [blk_alloc_lt _ _ _ (by simp only [World.size_alloc]; omega)]
    exact at_new _ _ _ (by simp only [World.size_alloc])
theorem len77 (A : Option Addr) (n c : Nat) (w : World) : Calls Tryf.prog 77 #[.slice A n c] w fun e w' => e = .returned (.int .i64 n) ∧ w = w' := by
  go_enter Tryf.func77, Tryf.ntmps77
  go_wp2
  go_ret
  exact ⟨rfl, rfl⟩
set_option maxRecDepth 20000 in
theorem ins39 (v : Value) (n : Nat) (hn : n ≤ 1) (w : World) : Calls Tryf.prog 39 #[v, .int .i64 0, .int .i64 n] w fun e w' => e = .returned (.tuple #[]) ∧ w = w' := by
  have h1 : ¬ (1 : Int) < (n : Int) := by omega
  go_enter Tryf.func39, Tryf.ntmps39
  go_wp2
  go_loop [6] (fun a => a = .int .i64 1) (fun _ => 0)
  case atStart => rfl
  case round =>
  obtain rfl := hrel
  go_wp2
  go_end0
  exact ⟨rfl, rfl⟩
set_option maxRecDepth 20000 in
theorem stable28 (v : Value) (n : Nat) (hn : n ≤ 1) (w : World) : Calls Tryf.prog 28 #[v, .int .i64 n] w fun e w' => e = .returned (.tuple #[]) ∧ w = w' := by
  have I := Lib.hid (ins39 v n hn)
  have h1 : ¬ (20 : Int) ≤ (n : Int) := by omega
  have h2 : ¬ (20 : Int) < (n : Int) := by omega
  go_enter Tryf.func28, Tryf.ntmps28
  go_wp2
  go_loop [5, 6] (fun a b => a = .int .i64 0 ∧ b = .int .i64 20) (fun _ _ => 0)
  case atStart => exact ⟨rfl, rfl⟩
  case round =>
  obtain ⟨rfl, rfl⟩ := hrel
  go_wp2_with (first | (go_at_call 39; refine (I.out _).mono ?_; rintro e w7 ⟨rfl, rfl⟩) | fail)
  go_loop [4] (fun a => a = .int .i64 20) (fun _ => 0)
  case atStart => rfl
  case round =>
  obtain rfl := hrel
  go_wp2
  go_end0
  exact ⟨rfl, rfl⟩
set_option maxRecDepth 20000 in
theorem stable22 (A : Option Addr) (n c : Nat) (hn : n ≤ 1) (w : World) : Calls Tryf.prog 22 #[.iface 60 (.slice A n c)] w fun e w' => e = .returned (.tuple #[]) ∧ w = w' := by
  have S := Lib.hid (stable28 (.iface 60 (.slice A n c)) n hn)
  go_enter Tryf.func22, Tryf.ntmps22
  go_wp2_with (first | (go_at_call 28; refine (S.out _).mono ?_; rintro e w7 ⟨rfl, rfl⟩) | (go_at_call 77; refine (len77 A n c _).mono ?_; rintro e w7 ⟨rfl, rfl⟩) | fail)
  go_end0
  exact ⟨rfl, rfl⟩
theorem mu_far (w : World) (M q : Nat) (hq : q ≠ M) : ((w.setCell ⟨M, 0, none⟩ (.int .i32 1)).setCell ⟨M, 0, none⟩ (.int .i32 0)).heap[q]? = w.heap[q]? := (blk_setCell_other _ _ _ _ hq).trans (blk_setCell_other _ _ _ _ hq)
theorem lg_mu {w : World} {K M E S : Nat} {v : Value} (h : Lg w K M E S v) (hKM : K ≠ M) (hEM : E ≠ M) (hSM : S ≠ M) : Lg ((w.setCell ⟨M, 0, none⟩ (.int .i32 1)).setCell ⟨M, 0, none⟩ (.int .i32 0)) K M E S v :=
  ⟨(mu_far w M K hKM).trans h.k, by simp [World.setCell, Array.getElem?_modify, h.m], (mu_far w M E hEM).trans h.e, (mu_far w M S hSM).trans h.s⟩
set_option maxRecDepth 20000 in
theorem done21 (K M E S : Nat) (A : Option Addr) (n c : Nat) (hn : n ≤ 1) (w : World) (h : Lg w K M E S (.slice A n c)) (hKM : K ≠ M) (hEM : E ≠ M) (hSM : S ≠ M) :
    Calls Tryf.prog 21 #[ptr M, ptr S] w fun e w' => e = .returned (.slice A n c) ∧ Lg w' K M E S (.slice A n c) ∧ (∀ q, q ≠ M → w'.heap[q]? = w.heap[q]?) ∧ ∀ B, B ≤ M → Below B w w' := by
  have c0 : w.cell? ⟨M, 0, none⟩ = some (.int .i32 0) := by simp [World.cell?, h.m]
  have f0 : w.frozen? ⟨M, 0, none⟩ = false := by simp [World.frozen?, h.m]
  have s0 : w.cell? ⟨S, 0, none⟩ = some (.slice A n c) := by simp [World.cell?, h.s]
  have HS := Lib.hid (stable22 A n c hn)
  unfold ptr
  go_enter_defers Tryf.func21, Tryf.ntmps21
  go_wp2_with (first | (go_at_call 17; refine (lock_free Tryf.muLib ⟨M, 0, none⟩ _ c0 f0).mono ?_; rintro e w' ⟨rfl, rfl⟩) | (go_at_call 22; refine (HS.out _).mono ?_; rintro e w7 ⟨rfl, rfl⟩) | fail)
  refine leaves_cons (f := 18) (args := #[.pointer (some ⟨M, 0, none⟩)]) (by simp) (by simp [go_sem]) ?_
  refine (unlock_deferred Tryf.muLib ⟨M, 0, none⟩ .returning _ ?_ ?_).mono ?_
  · exact World.cell?_setCell_same w ⟨M, 0, none⟩ (.int .i32 1) c0
  · simp [f0]
  rintro e u' w'' ⟨rfl, rfl, rfl⟩
  refine ⟨_, results_tmp rfl _ _ _, rfl, ?_, fun q hq => (mu_far w M q hq), fun B hB => ((Below.refl _ _).setCell hB _).setCell hB _⟩
  exact lg_mu h hKM hEM hSM
end Go.Proofs.YtlhdihdlkejjdaaFmt.DfA
