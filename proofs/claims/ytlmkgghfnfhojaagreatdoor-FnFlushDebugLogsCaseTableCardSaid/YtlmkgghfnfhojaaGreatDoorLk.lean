/- NewDeferLog and its closures by contracts: any number of messages, none of which has a location. Conditions: the log is free; at most 2^22 messages. -/
import Derived.Test.YtlmkgghfnfhojaaGreatDoorLocks
import Derived.Test.YtlmkgghfnfhojaaGreatDoorSls
import Derived.Conc.MuLone
import Derived.Defers
import Derived.WalkKit
import Derived.WalkSpells
import Derived.WalkLawsBesides
import Derived.Handy
import Derived.Deep.OwnRows
import Derived.Deep.QuietTactic
import Derived.BigQuiet
import Derived.Laws.AppendOwn
import Derived.Laws.OwnMore
import Derived.Maps.AppendAt
import Derived.Deep.AppendLies
namespace Go.Proofs.YtlmkgghfnfhojaaGreatDoor.Lk
open Go.RowKit Go.Deep Go.MuLone Go.Proofs.YtlmkgghfnfhojaaGreatDoor.Base Go.Proofs.YtlmkgghfnfhojaaGreatDoor.Sls
set_option linter.unusedVariables false
theorem run_store_func (a : Addr) (fn : Fn) (x y : Array Value) (w : World) (m : Mode) : (store a (.func fn x y) m).run Tryz.prog w = stored Tryz.prog w a (.func fn x y) m := run_store Tryz.prog w a _ m rfl
def ptr (b : Nat) : Value := .pointer (some ⟨b, 0, none⟩)
/-- The log that NewDeferLog makes: its closures over the blocks K (kind), M (mutex), E (errors?), S (messages); its level. -/
def logv (K M E S : Nat) (lvl : Int) : Value := .agg #[.func (Fn.func 18) #[] #[ptr K, ptr M, ptr E, ptr S], .func (Fn.func 21) #[] #[ptr M, ptr E], .func (Fn.func 22) #[] #[ptr M, ptr S], .func (Fn.func 23) #[] #[ptr M, ptr S], .int .i8 lvl, .map none]
theorem at_new (w : World) (o : Obj) (n : Nat) (h : w.heap.size = n) : (w.alloc o).heap[n]? = some o := by rw [← h]; exact heap_alloc_new w o
/-- A message without a location. -/
structure Ms where
  nA : Option Addr
  nn : Nat
  nc : Nat
  pl : ByteArray
  tx : ByteArray
  db : Bool
  kd : Int
  id : Int
def Ms.cells (m : Ms) : List Value := [.slice m.nA m.nn m.nc, .string m.pl, .nilIface, .pointer none, .string m.tx, .bool m.db, .int .u8 m.kd, .int .u8 m.id]
def flat : List Ms → List Value
  | [] => []
  | m :: l => m.cells ++ flat l
theorem flat_len : ∀ ms : List Ms, (flat ms).length = ms.length * 8
  | [] => rfl
  | m :: l => by
    show (m.cells ++ flat l).length = (l.length + 1) * 8
    rw [List.length_append, flat_len l]
    show 8 + _ = _
    omega
theorem flat_snoc (m : Ms) : ∀ ms : List Ms, flat (ms ++ [m]) = flat ms ++ m.cells
  | [] => by simp [flat]
  | x :: l => by
    show x.cells ++ flat (l ++ [m]) = x.cells ++ flat l ++ m.cells
    rw [flat_snoc m l, List.append_assoc]
theorem flat_get : ∀ (ms : List Ms) (i j : Nat) (hi : i < ms.length), j < 8 → (flat ms)[i * 8 + j]? = (ms[i]).cells[j]?
  | [], i, j, hi, hj => absurd hi (Nat.not_lt_zero i)
  | m :: l, 0, j, hi, hj => by
    show (m.cells ++ flat l)[0 * 8 + j]? = _
    rw [List.getElem?_append_left (by show _ < 8; omega)]
    simp
  | m :: l, i + 1, j, hi, hj => by
    have h := flat_get l i j (by simpa using hi) hj
    show (m.cells ++ flat l)[(i + 1) * 8 + j]? = _
    rw [List.getElem?_append_right (by show 8 ≤ _; omega)]
    have e : (i + 1) * 8 + j - m.cells.length = i * 8 + j := by show _ - 8 = _; omega
    rw [e, h]
    rfl
/-- A log that is free, with these messages. Its own blocks lie below base, the row of its messages does not. -/
structure Lg (w : World) (K M E S : Nat) (kn : Int) (eb : Bool) (base : Nat) (v : Value) (ms : List Ms) : Prop where
  k : w.heap[K]? = some (.cells #[.int .u8 kn] 59 (0, 0))
  m : w.heap[M]? = some (.cells #[.int .i32 0, .int .u32 0] 127 (0, 0))
  e : w.heap[E]? = some (.cells #[.bool eb] 4 (0, 0))
  s : w.heap[S]? = some (.cells #[v] 132 (0, 0))
  row : w.ownsRow base 48 8 v ms.length (flat ms)
  kb : K < base
  mb : M < base
  eb' : E < base
  sb : S < base
  bs : base ≤ w.heap.size
  km : K ≠ M
  em : E ≠ M
  sm : S ≠ M
  ks : K ≠ S
  es : E ≠ S
  ke : K ≠ E
/-- The row's header. -/
theorem Lg.form {w : World} {K M E S : Nat} {kn : Int} {eb : Bool} {base : Nat} {v : Value} {ms : List Ms} (h : Lg w K M E S kn eb base v ms) : ∃ A c, v = .slice A ms.length c := by
  rcases h.row.2 with ⟨h0, h1⟩ | ⟨g, c, cur, h0, _⟩
  · exact ⟨none, 0, by rw [h1]; exact h0⟩
  · exact ⟨_, _, h0⟩
theorem Lg.kept {w w' : World} {K M E S : Nat} {kn : Int} {eb : Bool} {base : Nat} {v : Value} {ms : List Ms} (h : Lg w K M E S kn eb base v ms) (hz : w.heap.size ≤ w'.heap.size) (hq : ∀ q, (q = K ∨ q = M ∨ q = E ∨ q = S ∨ v.ownBlock = some q) → w'.heap[q]? = w.heap[q]?) : Lg w' K M E S kn eb base v ms := by
  refine ⟨(hq K (.inl rfl)).trans h.k, (hq M (.inr (.inl rfl))).trans h.m, (hq E (.inr (.inr (.inl rfl)))).trans h.e, (hq S (.inr (.inr (.inr (.inl rfl))))).trans h.s, ?_, h.kb, h.mb, h.eb', h.sb, Nat.le_trans h.bs hz, h.km, h.em, h.sm, h.ks, h.es, h.ke⟩
  refine ⟨h.row.1, ?_⟩
  rcases h.row.2 with h0 | ⟨g, c, cur, h0, h1, h2, h3⟩
  · exact .inl h0
  · exact .inr ⟨g, c, cur, h0, h1, (hq g (.inr (.inr (.inr (.inr (by rw [h0]; rfl)))))).trans h2, h3⟩
theorem Lg.alloc {w : World} {K M E S : Nat} {kn : Int} {eb : Bool} {base : Nat} {v : Value} {ms : List Ms} (h : Lg w K M E S kn eb base v ms) (o : Obj) : Lg (w.alloc o) K M E S kn eb base v ms := by
  have hb := h.bs
  refine h.kept (by simp) (fun q hq => blk_alloc_lt w o q ?_)
  rcases hq with rfl | rfl | rfl | rfl | hq
  · have := h.kb; omega
  · have := h.mb; omega
  · have := h.eb'; omega
  · have := h.sb; omega
  · exact (h.row.lt q hq).2
theorem Lg.drew {w : World} {K M E S : Nat} {kn : Int} {eb : Bool} {base : Nat} {v : Value} {ms : List Ms} (h : Lg w K M E S kn eb base v ms) : Lg w.drew K M E S kn eb base v ms := h.kept (Nat.le_refl _) (fun q _ => rfl)
set_option maxRecDepth 20000 in
theorem newLog (kn : Int) (w : World) : Calls Tryz.prog 16 #[.int .u8 kn, .map none] w fun e w' => e = .returned (logv w.heap.size (w.heap.size + 3) (w.heap.size + 4) (w.heap.size + 2) 3) ∧ Below w.heap.size w w' ∧ Lg w' w.heap.size (w.heap.size + 3) (w.heap.size + 4) (w.heap.size + 2) kn false w'.heap.size (.slice none 0 0) [] := by
  have hmf : ∀ (fn : Fn) (first cap : Array Value) (w : World), (Instr.makeFunc fn first cap).run Tryz.prog w = .ok (.func fn first cap) w := fun _ _ _ _ => rfl
  have hsf := run_store_func
  go_enter Tryz.func16, Tryz.ntmps16
  go_wp2
  go_returns
  refine ⟨rfl, ((((((Below.refl _ _).alloc (Nat.le_refl _) _).alloc (by simp only [World.size_alloc]; omega) _).alloc (by simp only [World.size_alloc]; omega) _).alloc (by simp only [World.size_alloc]; omega) _).alloc (by simp only [World.size_alloc]; omega) _), ?_⟩
  refine ⟨?_, ?_, ?_, ?_, World.ownsRow_nil _ _ _ _, by simp only [World.size_alloc]; omega, by simp only [World.size_alloc]; omega, by simp only [World.size_alloc]; omega, by simp only [World.size_alloc]; omega, Nat.le_refl _, by omega, by omega, by omega, by omega, by omega, by omega⟩
  · repeat rw [blk_alloc_lt _ _ _ (by simp only [World.size_alloc]; omega)]
    exact heap_alloc_new w _
  · rw [blk_alloc_lt _ _ _ (by simp only [World.size_alloc]; omega)]
    exact at_new _ _ _ (by simp only [World.size_alloc])
  · exact at_new _ _ _ (by simp only [World.size_alloc])
  · repeat rw [blk_alloc_lt _ _ _ (by simp only [World.size_alloc]; omega)]
    exact at_new _ _ _ (by simp only [World.size_alloc])
theorem lenF (A : Option Addr) (n c : Nat) (w : World) : Calls Tryz.prog 97 #[.slice A n c] w fun e w' => e = .returned (.int .i64 n) ∧ w = w' := by
  go_enter Tryz.func97, Tryz.ntmps97
  go_wp2
  go_ret
  exact ⟨rfl, rfl⟩
/-- Less: no message has a location, so it says no. -/
theorem lessF (A : Option Addr) (c base : Nat) (ms : List Ms) (i j : Nat) (w : World) (ho : w.ownsRow base 48 8 (.slice A ms.length c) ms.length (flat ms)) (hi : i < ms.length) (hj : j < ms.length) (hm : ms.length ≤ 4194304) :
    Calls Tryz.prog 98 #[.slice A ms.length c, .int .i64 i, .int .i64 j] w fun e w' => e = .returned (.bool false) ∧ Below w.heap.size w w' := by
  obtain ⟨g, rfl⟩ : ∃ g, A = some ⟨g, 0, none⟩ := by
    rcases ho.2 with ⟨_, h1⟩ | ⟨g, c', cur, h0, _⟩
    · omega
    · injection h0 with h0; exact ⟨g, h0⟩
  have hg := (ho.lt g rfl).2
  have hc : ∀ (i : Nat) (hi : i < ms.length) (k : Nat), k < 8 → w.cell? ⟨g, i * 8 + k, none⟩ = (ms[i]).cells[k]? := fun i hi k hk => by
    rw [ho.cellAt (i * 8 + k) (by omega), flat_get ms i k hi hk]
  have a0 : w.cell? ⟨g, i * 8, none⟩ = _ := hc i hi 0 (by omega); have a1 := hc i hi 1 (by omega); have a2 := hc i hi 2 (by omega); have a3 := hc i hi 3 (by omega); have a4 := hc i hi 4 (by omega); have a5 := hc i hi 5 (by omega); have a6 := hc i hi 6 (by omega); have a7 := hc i hi 7 (by omega)
  have b0 : w.cell? ⟨g, j * 8, none⟩ = _ := hc j hj 0 (by omega); have b1 := hc j hj 1 (by omega); have b2 := hc j hj 2 (by omega); have b3 := hc j hj 3 (by omega); have b4 := hc j hj 4 (by omega); have b5 := hc j hj 5 (by omega); have b6 := hc j hj 6 (by omega); have b7 := hc j hj 7 (by omega)
  generalize hmi : ms[i] = mi at a0 a1 a2 a3 a4 a5 a6 a7
  generalize hmj : ms[j] = mj at b0 b1 b2 b3 b4 b5 b6 b7
  simp only [Ms.cells, List.getElem?_cons_zero, List.getElem?_cons_succ] at a0 a1 a2 a3 a4 a5 a6 a7 b0 b1 b2 b3 b4 b5 b6 b7
  have b0' : ∀ o, (w.alloc o).cell? ⟨g, j * 8, none⟩ = _ := fun o => (World.cell?_of_block (blk_alloc_lt w o g hg)).trans b0
  have b1' : ∀ o, (w.alloc o).cell? ⟨g, j * 8 + 1, none⟩ = _ := fun o => (World.cell?_of_block (blk_alloc_lt w o g hg)).trans b1
  have b2' : ∀ o, (w.alloc o).cell? ⟨g, j * 8 + 2, none⟩ = _ := fun o => (World.cell?_of_block (blk_alloc_lt w o g hg)).trans b2
  have b3' : ∀ o, (w.alloc o).cell? ⟨g, j * 8 + 3, none⟩ = _ := fun o => (World.cell?_of_block (blk_alloc_lt w o g hg)).trans b3
  have b4' : ∀ o, (w.alloc o).cell? ⟨g, j * 8 + 4, none⟩ = _ := fun o => (World.cell?_of_block (blk_alloc_lt w o g hg)).trans b4
  have b5' : ∀ o, (w.alloc o).cell? ⟨g, j * 8 + 5, none⟩ = _ := fun o => (World.cell?_of_block (blk_alloc_lt w o g hg)).trans b5
  have b6' : ∀ o, (w.alloc o).cell? ⟨g, j * 8 + 6, none⟩ = _ := fun o => (World.cell?_of_block (blk_alloc_lt w o g hg)).trans b6
  have b7' : ∀ o, (w.alloc o).cell? ⟨g, j * 8 + 7, none⟩ = _ := fun o => (World.cell?_of_block (blk_alloc_lt w o g hg)).trans b7
  clear b0 b1 b2 b3 b4 b5 b6 b7 hc ho
  go_enter Tryz.func98, Tryz.ntmps98
  go_wp2
  go_ret
  exact ⟨rfl, ((Below.refl _ _).alloc (Nat.le_refl _) _).alloc (by simp) _⟩
theorem own_below {w w' : World} {base n : Nat} {v : Value} {xs : List Value} (ho : w.ownsRow base 48 8 v n xs) (hb : Below w.heap.size w w') : w'.ownsRow base 48 8 v n xs := by
  refine ⟨ho.1, ?_⟩
  rcases ho.2 with h0 | ⟨g, c, cur, h0, h1, h2, h3⟩
  · exact .inl h0
  · exact .inr ⟨g, c, cur, h0, h1, (hb.block g (Array.getElem?_eq_some_iff.1 h2).1).trans h2, h3⟩
theorem lessI (A : Option Addr) (c base : Nat) (ms : List Ms) (x y : Int) (w w0 : World) (ho : w0.ownsRow base 48 8 (.slice A ms.length c) ms.length (flat ms)) (hb : Below w0.heap.size w0 w) (hx0 : 0 ≤ x) (hx : x < ms.length) (hy0 : 0 ≤ y) (hy : y < ms.length) (hm : ms.length ≤ 4194304) :
    Calls Tryz.prog 98 #[.slice A ms.length c, .int .i64 x, .int .i64 y] w fun e w' => e = .returned (.bool false) ∧ Below w0.heap.size w0 w' := by
  have h := lessF A c base ms x.toNat y.toNat w (own_below ho hb) (by omega) (by omega) hm
  rw [Int.toNat_of_nonneg hx0, Int.toNat_of_nonneg hy0] at h
  refine h.mono ?_
  rintro e w' ⟨he, hb'⟩
  exact ⟨he, hb.trans (hb'.mono hb.size)⟩
set_option maxRecDepth 20000 in
theorem insF (A : Option Addr) (c base : Nat) (ms : List Ms) (a b : Int) (w w0 : World) (ho : w0.ownsRow base 48 8 (.slice A ms.length c) ms.length (flat ms)) (hb0 : Below w0.heap.size w0 w) (ha : 0 ≤ a) (han : a ≤ ms.length) (hb : b ≤ ms.length) (hm : ms.length ≤ 4194304) :
    Calls Tryz.prog 39 #[.iface 132 (.slice A ms.length c), .int .i64 a, .int .i64 b] w fun e w' => e = .returned (.tuple #[]) ∧ Below w0.heap.size w0 w' := by
  have LS := Lib.hid (fun x y w' h1 h2 h3 h4 h5 => lessI A c base ms x y w' w0 ho h1 h2 h3 h4 h5 hm)
  have HB := Lib.hid hb0
  clear hb0 ho
  go_enter Tryz.func39, Tryz.ntmps39
  go_wp2
  go_loopw [6] (fun i wr => ∃ k : Int, i = .int .i64 k ∧ a + 1 ≤ k ∧ (k ≤ b ∨ k = a + 1) ∧ Below w0.heap.size w0 wr) (fun i _ => (b - intOf i).toNat)
  case atStart => exact ⟨a + 1, by go_num, by omega, .inr rfl, HB.out⟩
  case round =>
  obtain ⟨k, rfl, h1, h2, h3⟩ := hrel
  by_cases hk : k < b
  · go_wp2
    go_loopw [7] (fun j wq => j = .int .i64 k ∧ Below w0.heap.size w0 wq) (fun _ _ => 0)
    case atStart => exact ⟨rfl, h3⟩
    case round =>
    obtain ⟨rfl, h4⟩ := hrel
    go_wp2_with (first | (go_at_call 98; refine (LS.out _ _ _ h4 (by omega) (by omega) (by omega) (by omega)).mono ?_; rintro e w7 ⟨rfl, h7⟩) | fail)
    exact ⟨⟨k + 1, by go_num, by omega, by omega, h7⟩, by simp [intOf]; omega⟩
  · go_wp2
    go_end0
    exact ⟨rfl, h3⟩
set_option maxRecDepth 20000 in
set_option maxHeartbeats 2000000 in
theorem symF (A : Option Addr) (c base : Nat) (ms : List Ms) (w0 : World) (ho : w0.ownsRow base 48 8 (.slice A ms.length c) ms.length (flat ms)) (hm : ms.length ≤ 4194304) : ∀ (d : Nat) (a m b : Int) (w : World), b - a ≤ d → 0 ≤ a → a < m → m < b → b ≤ ms.length → Below w0.heap.size w0 w →
    Calls Tryz.prog 40 #[.iface 132 (.slice A ms.length c), .int .i64 a, .int .i64 m, .int .i64 b] w fun e w' => e = .returned (.tuple #[]) ∧ Below w0.heap.size w0 w' := by
  intro d
  induction d with
  | zero => intro a m b w h1 h2 h3 h4 h5 h6; omega
  | succ d ih =>
  intro a m b w hd ha ham hmb hbn hb0
  have LS := Lib.hid (fun x y w' h1 h2 h3 h4 h5 => lessI A c base ms x y w' w0 ho h1 h2 h3 h4 h5 hm)
  have IH := Lib.hid ih
  have HB := Lib.hid hb0
  clear ih hb0 ho
  by_cases c1 : m - a = 1
  · go_enter Tryz.func40, Tryz.ntmps40
    go_wp2
    go_loopw [8, 9] (fun i j wr => ∃ y : Int, i = .int .i64 m ∧ j = .int .i64 y ∧ m ≤ y ∧ y ≤ b ∧ Below w0.heap.size w0 wr) (fun _ j _ => (intOf j - m).toNat)
    case atStart => exact ⟨b, rfl, rfl, by omega, by omega, HB.out⟩
    case round =>
    obtain ⟨y, rfl, rfl, h1, h2, h3⟩ := hrel
    by_cases hy : m < y
    · go_wp2_with (first | (go_at_call 98; refine (LS.out _ _ _ h3 (by omega) (by omega) (by omega) (by omega)).mono ?_; rintro e w7 ⟨rfl, h7⟩) | fail)
      exact ⟨⟨(m + y) / 2, rfl, rfl, by omega, by omega, h7⟩, by simp [intOf]; omega⟩
    · obtain rfl : y = m := by omega
      go_wp2
      go_loopw [11] (fun k wr' => k = .int .i64 a ∧ Below w0.heap.size w0 wr') (fun _ _ => 0)
      case atStart => exact ⟨rfl, h3⟩
      case round =>
      obtain ⟨rfl, h4⟩ := hrel
      go_wp2
      exact bodyPost_ret (v := .tuple #[]) (results_none rfl _ _ _) rfl ⟨rfl, h4⟩
  have e1 : (m - a == 1) = false := beq_eq_false_iff_ne.2 c1
  by_cases c2 : b - m = 1
  · go_enter Tryz.func40, Tryz.ntmps40
    go_wp2
    go_loopw [12, 13] (fun i j wr => ∃ x : Int, i = .int .i64 x ∧ j = .int .i64 m ∧ a ≤ x ∧ x ≤ m ∧ Below w0.heap.size w0 wr) (fun i _ _ => (m - intOf i).toNat)
    case atStart => exact ⟨a, rfl, rfl, by omega, by omega, HB.out⟩
    case round =>
    obtain ⟨x, rfl, rfl, h1, h2, h3⟩ := hrel
    by_cases hx : x < m
    · go_wp2_with (first | (go_at_call 98; refine (LS.out _ _ _ h3 (by omega) (by omega) (by omega) (by omega)).mono ?_; rintro e w7 ⟨rfl, h7⟩) | fail)
      exact ⟨⟨(x + m) / 2 + 1, by go_num, rfl, by omega, by omega, h7⟩, by simp [intOf]; omega⟩
    · obtain rfl : x = m := by omega
      go_wp2
      go_loopw [15] (fun k wr' => k = .int .i64 x ∧ Below w0.heap.size w0 wr') (fun _ _ => 0)
      case atStart => exact ⟨rfl, h3⟩
      case round =>
      obtain ⟨rfl, h4⟩ := hrel
      go_wp2
      exact bodyPost_ret (v := .tuple #[]) (results_none rfl _ _ _) rfl ⟨rfl, h4⟩
  have e2 : (b - m == 1) = false := beq_eq_false_iff_ne.2 c2
  by_cases c3 : (a + b) / 2 < m
  · go_enter Tryz.func40, Tryz.ntmps40
    go_wp2
    go_loopw [18, 19] (fun i j wr => ∃ x : Int, i = .int .i64 x ∧ j = .int .i64 ((a + b) / 2) ∧ (a + b) / 2 + m - b ≤ x ∧ x ≤ (a + b) / 2 ∧ Below w0.heap.size w0 wr) (fun i _ _ => ((a + b) / 2 - intOf i).toNat)
    case atStart => exact ⟨(a + b) / 2 + m - b, by go_num, rfl, by omega, by omega, HB.out⟩
    case round =>
    obtain ⟨x, rfl, rfl, h1, h2, h3⟩ := hrel
    by_cases hx : x < (a + b) / 2
    · go_wp2_with (first | (go_at_call 98; refine (LS.out _ _ _ h3 (by omega) (by omega) (by omega) (by omega)).mono ?_; rintro e w7 ⟨rfl, h7⟩) | fail)
      exact ⟨⟨(x + (a + b) / 2) / 2 + 1, by go_num, rfl, by omega, by omega, h7⟩, by simp [intOf]; omega⟩
    · obtain rfl : x = (a + b) / 2 := by omega
      go_wp2_with (first | (go_at_call 40; refine (IH.out _ _ _ _ (by omega) (by omega) (by omega) (by omega) (by omega) h3).mono ?_; rintro e w7 ⟨rfl, h7⟩) | fail)
      go_end0
      exact ⟨rfl, h7⟩
  by_cases c4 : m < (a + b) / 2
  · go_enter Tryz.func40, Tryz.ntmps40
    go_wp2
    go_loopw [18, 19] (fun i j wr => ∃ x : Int, i = .int .i64 x ∧ j = .int .i64 m ∧ a ≤ x ∧ x ≤ m ∧ Below w0.heap.size w0 wr) (fun i _ _ => (m - intOf i).toNat)
    case atStart => exact ⟨a, by go_num, rfl, by omega, by omega, HB.out⟩
    case round =>
    obtain ⟨x, rfl, rfl, h1, h2, h3⟩ := hrel
    by_cases hx : x < m
    · go_wp2_with (first | (go_at_call 98; refine (LS.out _ _ _ h3 (by omega) (by omega) (by omega) (by omega)).mono ?_; rintro e w7 ⟨rfl, h7⟩) | fail)
      exact ⟨⟨(x + m) / 2 + 1, by go_num, rfl, by omega, by omega, h7⟩, by simp [intOf]; omega⟩
    · obtain rfl : x = m := by omega
      go_wp2_with (first | (go_at_call 40; refine (IH.out _ _ _ _ (by omega) (by omega) (by omega) (by omega) (by omega) h3).mono ?_; rintro e w7 ⟨rfl, h7⟩) | fail)
      go_end0
      exact ⟨rfl, h7⟩
  · have c5 : (a + b) / 2 = m := by omega
    go_enter Tryz.func40, Tryz.ntmps40
    go_wp2
    go_loopw [18, 19] (fun i j wr => ∃ x : Int, i = .int .i64 x ∧ j = .int .i64 m ∧ a ≤ x ∧ x ≤ m ∧ Below w0.heap.size w0 wr) (fun i _ _ => (m - intOf i).toNat)
    case atStart => exact ⟨a, by go_num, rfl, by omega, by omega, HB.out⟩
    case round =>
    obtain ⟨x, rfl, rfl, h1, h2, h3⟩ := hrel
    by_cases hx : x < m
    · go_wp2_with (first | (go_at_call 98; refine (LS.out _ _ _ h3 (by omega) (by omega) (by omega) (by omega)).mono ?_; rintro e w7 ⟨rfl, h7⟩) | fail)
      exact ⟨⟨(x + m) / 2 + 1, by go_num, rfl, by omega, by omega, h7⟩, by simp [intOf]; omega⟩
    · obtain rfl : x = m := by omega
      go_wp2
      go_end0
      exact ⟨rfl, h3⟩
set_option maxRecDepth 20000 in
set_option maxHeartbeats 2000000 in
theorem stabF (A : Option Addr) (c base : Nat) (ms : List Ms) (w w0 : World) (ho : w0.ownsRow base 48 8 (.slice A ms.length c) ms.length (flat ms)) (hb0 : Below w0.heap.size w0 w) (hm : ms.length ≤ 4194304) :
    Calls Tryz.prog 28 #[.iface 132 (.slice A ms.length c), .int .i64 ms.length] w fun e w' => e = .returned (.tuple #[]) ∧ Below w0.heap.size w0 w' := by
  have IN' := fun a b w' h1 h2 h3 h4 => insF A c base ms a b w' w0 ho h1 h2 h3 h4 hm
  have SY' := fun d a m b w' => symF A c base ms w0 ho hm d a m b w'
  have HB := Lib.hid hb0
  obtain ⟨n, hn⟩ : ∃ n : Int, n = (ms.length : Int) := ⟨_, rfl⟩
  have n0 : 0 ≤ n := by omega
  have n1 : n ≤ 4194304 := by omega
  simp only [← hn] at IN' SY' ⊢
  have IN := Lib.hid IN'; have SY := Lib.hid SY'
  clear hb0 ho hn IN' SY'
  go_enter Tryz.func28, Tryz.ntmps28
  go_wp2
  go_loopw [5, 6] (fun a b wr => ∃ x : Int, a = .int .i64 x ∧ b = .int .i64 (x + 20) ∧ 0 ≤ x ∧ x ≤ n ∧ Below w0.heap.size w0 wr) (fun a _ _ => (n - intOf a).toNat)
  case atStart => exact ⟨0, rfl, rfl, by omega, by omega, HB.out⟩
  case round =>
  obtain ⟨x, rfl, rfl, h1, h2, h3⟩ := hrel
  by_cases hx : x + 20 ≤ n
  · go_wp2_with (first | (go_at_call 39; refine (IN.out _ _ _ h3 (by omega) (by omega) (by omega)).mono ?_; rintro e w7 ⟨rfl, h7⟩) | fail)
    exact ⟨⟨x + 20, by go_num, by go_num, by omega, by omega, h7⟩, by simp [intOf]; omega⟩
  · go_wp2_with (first | (go_at_call 39; refine (IN.out _ _ _ h3 (by omega) (by omega) (by omega)).mono ?_; rintro e w7 ⟨rfl, h7⟩) | fail)
    go_loopw [4, 5, 6, 7] (fun z a b k wr => ∃ y : Int, z = .int .i64 y ∧ 20 ≤ y ∧ y ≤ 8388608 ∧ Below w0.heap.size w0 wr) (fun z _ _ _ _ => (n - intOf z).toNat)
    case atStart => exact ⟨20, rfl, by omega, by omega, h7⟩
    case round =>
    obtain ⟨y, rfl, h4, h5, h6⟩ := hrel
    by_cases hy : y < n
    · go_wp2
      go_loopw [5, 6] (fun a b wr => ∃ x : Int, a = .int .i64 x ∧ b = .int .i64 (x + 2 * y) ∧ 0 ≤ x ∧ x ≤ n ∧ Below w0.heap.size w0 wr) (fun a _ _ => (n - intOf a).toNat)
      case atStart => exact ⟨0, rfl, by go_num, by omega, by omega, h6⟩
      case round =>
      obtain ⟨x, rfl, rfl, g1, g2, g3⟩ := hrel
      by_cases hx : x + 2 * y ≤ n
      · go_wp2_with (first | (go_at_call 40; refine (SY.out n.toNat _ _ _ _ (by omega) (by omega) (by omega) (by omega) (by omega) g3).mono ?_; rintro e w8 ⟨rfl, h8⟩) | fail)
        exact ⟨⟨x + 2 * y, by go_num, by go_num, by omega, by omega, h8⟩, by simp [intOf]; omega⟩
      · by_cases hz : x + y < n
        · go_wp2_with (first | (go_at_call 40; refine (SY.out n.toNat _ _ _ _ (by omega) (by omega) (by omega) (by omega) (by omega) g3).mono ?_; rintro e w8 ⟨rfl, h8⟩) | fail)
          exact ⟨⟨y * 2, by go_num, by omega, by omega, h8⟩, by simp [intOf]; omega⟩
        · go_wp2
          exact ⟨⟨y * 2, by go_num, by omega, by omega, g3⟩, by simp [intOf]; omega⟩
    · go_wp2
      go_end0
      exact ⟨rfl, h6⟩
theorem stableF (A : Option Addr) (c base : Nat) (ms : List Ms) (w : World) (ho : w.ownsRow base 48 8 (.slice A ms.length c) ms.length (flat ms)) (hm : ms.length ≤ 4194304) :
    Calls Tryz.prog 24 #[.iface 132 (.slice A ms.length c)] w fun e w' => e = .returned (.tuple #[]) ∧ Below w.heap.size w w' := by
  have S := Lib.hid (stabF A c base ms w w ho (Below.refl _ _) hm)
  have L := Lib.hid (lenF A ms.length c)
  go_enter Tryz.func24, Tryz.ntmps24
  go_wp2_with (first | (go_at_call 28; refine S.out.mono ?_; rintro e w7 ⟨rfl, h7⟩) | (go_at_call 97; refine (L.out _).mono ?_; rintro e w7 ⟨rfl, rfl⟩) | fail)
  go_end0
  exact ⟨rfl, h7⟩
end Go.Proofs.YtlmkgghfnfhojaaGreatDoor.Lk
