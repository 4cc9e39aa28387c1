/- isValidTSConfigPathPattern by its contract: at most one star, no message; else one. Conditions: lengths. -/
import Derived.Test.YtlhdihdlkejjdaaFmtDfE
import Derived.Test.YtlhdihdlkejjdaaFmtRows
import Derived.Stop.CallBack
import Derived.Stop.IfaceNil
import GoSem.ClaimData
namespace Go.Proofs.YtlhdihdlkejjdaaFmt.DfF
open Go.RowKit Go.Deep Go.MuLone Go.Extern.Stop Go.Stop Go.Extern Go.Proofs.YtlhdihdlkejjdaaFmt.Base Go.Proofs.YtlhdihdlkejjdaaFmt.Sls Go.Proofs.YtlhdihdlkejjdaaFmt.DfA Go.Proofs.YtlhdihdlkejjdaaFmt.DfB Go.Proofs.YtlhdihdlkejjdaaFmt.DfC Go.Proofs.YtlhdihdlkejjdaaFmt.DfD Go.Proofs.YtlhdihdlkejjdaaFmt.DfE
set_option linter.unusedVariables false
def fmtA : ByteArray := { data := #[73, 110, 118, 97, 108, 105, 100, 32, 112, 97, 116, 116, 101, 114, 110, 32, 37, 113, 44, 32, 109, 117, 115, 116, 32, 104, 97, 118, 101, 32, 97, 116, 32, 109, 111, 115, 116, 32, 111, 110, 101, 32, 34, 42, 34, 32, 99, 104, 97, 114, 97, 99, 116, 101, 114] }
@[go_sem] theorem call25 (args : Array Value) (w : World) : (callFunc 25 args).run Tryf.prog w = ((FmtStop.sprintf #[9, 136] #[9] args).run Tryf.prog w).andThen fun v w' => .ok (.value v) w' :=
  run_callFunc_extern Tryf.func25 (by kernel_rfl) (by kernel_rfl) (by kernel_rfl) (by kernel_rfl) args w
@[go_sem] theorem guard (name : String) (w : World) : (FmtStop.guard name).run Tryf.prog w = .ok () w := by kernel_rfl
@[go_sem] theorem fmt0 : FmtStop.printed? ({ data := #[73, 110, 118, 97, 108, 105, 100, 32, 112, 97, 116, 116, 101, 114, 110, 32, 37, 113, 44, 32, 109, 117, 115, 116, 32, 104, 97, 118, 101, 32, 97, 116, 32, 109, 111, 115, 116, 32, 111, 110, 101, 32, 34, 42, 34, 32, 99, 104, 97, 114, 97, 99, 116, 101, 114] } : ByteArray) 1 = some [(0, 113, false)] := by kernel_rfl
@[go_sem] theorem fmt0r (w : World) : (FmtDoors.printed ({ data := #[73, 110, 118, 97, 108, 105, 100, 32, 112, 97, 116, 116, 101, 114, 110, 32, 37, 113, 44, 32, 109, 117, 115, 116, 32, 104, 97, 118, 101, 32, 97, 116, 32, 109, 111, 115, 116, 32, 111, 110, 101, 32, 34, 42, 34, 32, 99, 104, 97, 114, 97, 99, 116, 101, 114] } : ByteArray) 1).run Tryf.prog w = .ok [(0, 113, false)] w := by kernel_rfl
def shape9 : List UInt8 := [12, 6, 0, 0, 0, 0, 0, 0, 0, 115, 116, 114, 105, 110, 103]
@[go_sem] theorem op9_113 (name : String) (x : ByteArray) (w : World) : (FmtStop.operand name false 113 false (.iface 9 (.string x))).run Tryf.prog w = .ok (shape9, FmtStop.pack x.data.toList) w := by kernel_rfl
def cnt (s : ByteArray) (k : Nat) : Nat := (s.data.toList.take k).count 42
theorem cnt_step (s : ByteArray) (k : Nat) (h : k < s.size) : cnt s (k + 1) = cnt s k + if s[k] = 42 then 1 else 0 := by
  unfold cnt
  rw [List.take_succ_eq_append_getElem (by simpa using h), get_list s k h, List.count_append]
  by_cases e : s[k] = 42 <;> simp [e]
theorem cnt_mono (s : ByteArray) (k j : Nat) (h : k ≤ j) : cnt s k ≤ cnt s j := by
  unfold cnt
  exact List.Sublist.count_le _ (List.take_sublist_take_left h)
/-- The verdict: true with no message, if there is at most one star; else false with one message. -/
def P15 (s : ByteArray) (K M E S T : Nat) (w : World) (e : Ending) (w' : World) : Prop :=
  ((cnt s s.size ≤ 1 ∧ e = .returned (.bool true) ∧ Lg w' K M E S (.slice none 0 0)) ∨ (2 ≤ cnt s s.size ∧ e = .returned (.bool false) ∧ ∃ g c, Lg w' K M E S (.slice (some ⟨g, 0, none⟩) 1 c))) ∧ (∀ q, q ≠ M → q ≠ S → q ≠ T → q < w.heap.size → w'.heap[q]? = w.heap[q]?) ∧ ∀ B, B ≤ M → B ≤ S → B ≤ T → B ≤ w.heap.size → Below B w w'
set_option maxRecDepth 20000 in
set_option maxHeartbeats 2000000 in
theorem pat15 (s : ByteArray) (K M E S T X : Nat) (w : World) (hs : s.size ≤ 1048576) (h : Lg w K M E S (.slice none 0 0)) (hT : w.rowIs T 57 10 (trk false)) (hX : w.rowIs X 49 10 src0) (hd : K ≠ M ∧ E ≠ M ∧ S ≠ M ∧ K ≠ S ∧ E ≠ S ∧ K ≠ T ∧ M ≠ T ∧ E ≠ T ∧ S ≠ T) :
    Calls Tryf.prog 15 #[.string s, logv K M E S, ptr X, ptr T, .agg #[.int .i32 0]] w (P15 s K M E S T w) := by
  have HL := Lib.hid h; have HT := Lib.hid hT; have HX := Lib.hid hX
  clear h hT hX
  unfold logv ptr
  go_enter Tryf.func15, Tryf.ntmps15
  go_wp2
  go_loop [11, 12] (fun f i => ∃ k : Nat, k ≤ s.size ∧ f = .bool (decide (cnt s k = 1)) ∧ i = .int .i64 k ∧ cnt s k ≤ 1) (fun _ i => s.size - (intOf i).toNat)
  case atStart => exact ⟨0, by omega, rfl, rfl, Nat.zero_le _⟩
  case round =>
  obtain ⟨k, hk, rfl, rfl, hc⟩ := hrel
  by_cases hlt : k < s.size
  · have hst := cnt_step s k hlt
    by_cases he : s[k] = 42
    · have e1 : ((s[k].toNat : Int) == 42) = true := by rw [he]; rfl
      by_cases h1 : cnt s k = 1
      · have D := decide_eq_true h1
        rw [D]
        have HST := Lib.hid (show cnt s (k + 1) = cnt s k + 1 by rw [hst, if_pos he])
        clear he hst D
        go_wp2_with (fail)
        refine (range23 X _ ((HX.out.alloc _).alloc _)).mono ?_
        rintro e w7 ⟨rfl, hb7⟩
        have HB7 := Lib.hid hb7
        clear hb7
        go_wp2_with (fail)
        have hz7 := HB7.out.size
        simp only [World.size_alloc] at hz7
        have l7 : w7.heap[w.heap.size]? = some (.cells #[.func (Fn.func 16) #[] #[.pointer (some ⟨K, 0, none⟩), .pointer (some ⟨M, 0, none⟩), .pointer (some ⟨E, 0, none⟩), .pointer (some ⟨S, 0, none⟩)], .func (Fn.func 19) #[] #[.pointer (some ⟨M, 0, none⟩), .pointer (some ⟨E, 0, none⟩)], .func (Fn.func 20) #[] #[.pointer (some ⟨M, 0, none⟩), .pointer (some ⟨S, 0, none⟩)], .func (Fn.func 21) #[] #[.pointer (some ⟨M, 0, none⟩), .pointer (some ⟨S, 0, none⟩)], .int .i8 3, .map none] 37 (0, 0)) := (HB7.out.block _ (by simp; omega)).trans ((blk_alloc_lt _ _ _ (by simp)).trans (heap_alloc_new w _))
        have y0 : (w7.alloc (.cells #[.int .i32 0, .int .i32 0] 76)).heap[w.heap.size]? = some (.cells #[.func (Fn.func 16) #[] #[.pointer (some ⟨K, 0, none⟩), .pointer (some ⟨M, 0, none⟩), .pointer (some ⟨E, 0, none⟩), .pointer (some ⟨S, 0, none⟩)], .func (Fn.func 19) #[] #[.pointer (some ⟨M, 0, none⟩), .pointer (some ⟨E, 0, none⟩)], .func (Fn.func 20) #[] #[.pointer (some ⟨M, 0, none⟩), .pointer (some ⟨S, 0, none⟩)], .func (Fn.func 21) #[] #[.pointer (some ⟨M, 0, none⟩), .pointer (some ⟨S, 0, none⟩)], .int .i8 3, .map none] 37 (0, 0)) := (blk_alloc_lt _ _ _ (by omega)).trans l7
        have y1 : (w7.alloc (.cells #[.int .i32 0, .int .i32 0] 76)).heap[w7.heap.size]? = some (.cells #[.int .i32 0, .int .i32 0] 76 (0, 0)) := heap_alloc_new w7 _
        generalize hw8 : (w7.alloc (.cells #[.int .i32 0, .int .i32 0] 76)) = w8 at y0 y1 ⊢
        refine wp_region_held_drew (S := fun w' => w'.heap[w.heap.size]? = some (.cells #[.func (Fn.func 16) #[] #[.pointer (some ⟨K, 0, none⟩), .pointer (some ⟨M, 0, none⟩), .pointer (some ⟨E, 0, none⟩), .pointer (some ⟨S, 0, none⟩)], .func (Fn.func 19) #[] #[.pointer (some ⟨M, 0, none⟩), .pointer (some ⟨E, 0, none⟩)], .func (Fn.func 20) #[] #[.pointer (some ⟨M, 0, none⟩), .pointer (some ⟨S, 0, none⟩)], .func (Fn.func 21) #[] #[.pointer (some ⟨M, 0, none⟩), .pointer (some ⟨S, 0, none⟩)], .int .i8 3, .map none] 37 (0, 0)) ∧ w'.heap[w7.heap.size]? = some (.cells #[.int .i32 0, .int .i32 0] 76 (0, 0))) (by kernel_rfl) ⟨y0, y1⟩ (fun hHeld => ?_)
        refine wpAnyH_take (i := 0) (oi := { dst := some 28, op := Op.load 37 (Operand.tmp 6), type := 37, pos := "tsconfig_json.go:423", after := #[], guard := none }) (v := ?_) rfl (by kernel_rfl) (by kernel_rfl) (by kernel_rfl) (fun _ _ _ h => h) (Or.inl ⟨by rfl, ?_⟩) (by assumption) ?_
        rotate_left
        · intro wq hSw
          obtain ⟨q1, q2⟩ := hSw
          have a0 : wq.cell? ⟨w.heap.size, 0, none⟩ = some (.func (Fn.func 16) #[] #[.pointer (some ⟨K, 0, none⟩), .pointer (some ⟨M, 0, none⟩), .pointer (some ⟨E, 0, none⟩), .pointer (some ⟨S, 0, none⟩)]) := by simp [World.cell?, q1]
          have a1 : wq.cell? ⟨w.heap.size, 1, none⟩ = some (.func (Fn.func 19) #[] #[.pointer (some ⟨M, 0, none⟩), .pointer (some ⟨E, 0, none⟩)]) := by simp [World.cell?, q1]
          have a2 : wq.cell? ⟨w.heap.size, 2, none⟩ = some (.func (Fn.func 20) #[] #[.pointer (some ⟨M, 0, none⟩), .pointer (some ⟨S, 0, none⟩)]) := by simp [World.cell?, q1]
          have a3 : wq.cell? ⟨w.heap.size, 3, none⟩ = some (.func (Fn.func 21) #[] #[.pointer (some ⟨M, 0, none⟩), .pointer (some ⟨S, 0, none⟩)]) := by simp [World.cell?, q1]
          have a4 : wq.cell? ⟨w.heap.size, 4, none⟩ = some (.int .i8 3) := by simp [World.cell?, q1]
          have a5 : wq.cell? ⟨w.heap.size, 5, none⟩ = some (.map none) := by simp [World.cell?, q1]
          have b0 : wq.cell? ⟨w7.heap.size, 0, none⟩ = some (.int .i32 0) := by simp [World.cell?, q2]
          have b1 : wq.cell? ⟨w7.heap.size, 1, none⟩ = some (.int .i32 0) := by simp [World.cell?, q2]
          go_simp
          try (with_reducible rfl)
        try go_frame
        refine wpAnyH_take (i := 1) (oi := { dst := some 29, op := Op.move (Operand.tmp 3), type := 22, pos := "tsconfig_json.go:423", after := #[], guard := none }) (v := ?_) rfl (by kernel_rfl) (by kernel_rfl) (by kernel_rfl) (fun _ _ _ h => h) (Or.inl ⟨by rfl, ?_⟩) (by assumption) ?_
        rotate_left
        · intro wq hSw
          obtain ⟨q1, q2⟩ := hSw
          have a0 : wq.cell? ⟨w.heap.size, 0, none⟩ = some (.func (Fn.func 16) #[] #[.pointer (some ⟨K, 0, none⟩), .pointer (some ⟨M, 0, none⟩), .pointer (some ⟨E, 0, none⟩), .pointer (some ⟨S, 0, none⟩)]) := by simp [World.cell?, q1]
          have a1 : wq.cell? ⟨w.heap.size, 1, none⟩ = some (.func (Fn.func 19) #[] #[.pointer (some ⟨M, 0, none⟩), .pointer (some ⟨E, 0, none⟩)]) := by simp [World.cell?, q1]
          have a2 : wq.cell? ⟨w.heap.size, 2, none⟩ = some (.func (Fn.func 20) #[] #[.pointer (some ⟨M, 0, none⟩), .pointer (some ⟨S, 0, none⟩)]) := by simp [World.cell?, q1]
          have a3 : wq.cell? ⟨w.heap.size, 3, none⟩ = some (.func (Fn.func 21) #[] #[.pointer (some ⟨M, 0, none⟩), .pointer (some ⟨S, 0, none⟩)]) := by simp [World.cell?, q1]
          have a4 : wq.cell? ⟨w.heap.size, 4, none⟩ = some (.int .i8 3) := by simp [World.cell?, q1]
          have a5 : wq.cell? ⟨w.heap.size, 5, none⟩ = some (.map none) := by simp [World.cell?, q1]
          have b0 : wq.cell? ⟨w7.heap.size, 0, none⟩ = some (.int .i32 0) := by simp [World.cell?, q2]
          have b1 : wq.cell? ⟨w7.heap.size, 1, none⟩ = some (.int .i32 0) := by simp [World.cell?, q2]
          go_simp
          try (with_reducible rfl)
        try go_frame
        refine wpAnyH_take (i := 2) (oi := { dst := some 30, op := Op.load 76 (Operand.tmp 13), type := 76, pos := "tsconfig_json.go:423", after := #[], guard := none }) (v := ?_) rfl (by kernel_rfl) (by kernel_rfl) (by kernel_rfl) (fun _ _ _ h => h) (Or.inl ⟨by rfl, ?_⟩) (by assumption) ?_
        rotate_left
        · intro wq hSw
          obtain ⟨q1, q2⟩ := hSw
          have a0 : wq.cell? ⟨w.heap.size, 0, none⟩ = some (.func (Fn.func 16) #[] #[.pointer (some ⟨K, 0, none⟩), .pointer (some ⟨M, 0, none⟩), .pointer (some ⟨E, 0, none⟩), .pointer (some ⟨S, 0, none⟩)]) := by simp [World.cell?, q1]
          have a1 : wq.cell? ⟨w.heap.size, 1, none⟩ = some (.func (Fn.func 19) #[] #[.pointer (some ⟨M, 0, none⟩), .pointer (some ⟨E, 0, none⟩)]) := by simp [World.cell?, q1]
          have a2 : wq.cell? ⟨w.heap.size, 2, none⟩ = some (.func (Fn.func 20) #[] #[.pointer (some ⟨M, 0, none⟩), .pointer (some ⟨S, 0, none⟩)]) := by simp [World.cell?, q1]
          have a3 : wq.cell? ⟨w.heap.size, 3, none⟩ = some (.func (Fn.func 21) #[] #[.pointer (some ⟨M, 0, none⟩), .pointer (some ⟨S, 0, none⟩)]) := by simp [World.cell?, q1]
          have a4 : wq.cell? ⟨w.heap.size, 4, none⟩ = some (.int .i8 3) := by simp [World.cell?, q1]
          have a5 : wq.cell? ⟨w.heap.size, 5, none⟩ = some (.map none) := by simp [World.cell?, q1]
          have b0 : wq.cell? ⟨w7.heap.size, 0, none⟩ = some (.int .i32 0) := by simp [World.cell?, q2]
          have b1 : wq.cell? ⟨w7.heap.size, 1, none⟩ = some (.int .i32 0) := by simp [World.cell?, q2]
          go_simp
          try (with_reducible rfl)
        try go_frame
        refine wpAnyH_take (i := 3) (oi := { dst := some 31, op := Op.move (Operand.tmp 0), type := 9, pos := "tsconfig_json.go:423", after := #[], guard := none }) (v := ?_) rfl (by kernel_rfl) (by kernel_rfl) (by kernel_rfl) (fun _ _ _ h => h) (Or.inl ⟨by rfl, ?_⟩) (by assumption) ?_
        rotate_left
        · intro wq hSw
          obtain ⟨q1, q2⟩ := hSw
          have a0 : wq.cell? ⟨w.heap.size, 0, none⟩ = some (.func (Fn.func 16) #[] #[.pointer (some ⟨K, 0, none⟩), .pointer (some ⟨M, 0, none⟩), .pointer (some ⟨E, 0, none⟩), .pointer (some ⟨S, 0, none⟩)]) := by simp [World.cell?, q1]
          have a1 : wq.cell? ⟨w.heap.size, 1, none⟩ = some (.func (Fn.func 19) #[] #[.pointer (some ⟨M, 0, none⟩), .pointer (some ⟨E, 0, none⟩)]) := by simp [World.cell?, q1]
          have a2 : wq.cell? ⟨w.heap.size, 2, none⟩ = some (.func (Fn.func 20) #[] #[.pointer (some ⟨M, 0, none⟩), .pointer (some ⟨S, 0, none⟩)]) := by simp [World.cell?, q1]
          have a3 : wq.cell? ⟨w.heap.size, 3, none⟩ = some (.func (Fn.func 21) #[] #[.pointer (some ⟨M, 0, none⟩), .pointer (some ⟨S, 0, none⟩)]) := by simp [World.cell?, q1]
          have a4 : wq.cell? ⟨w.heap.size, 4, none⟩ = some (.int .i8 3) := by simp [World.cell?, q1]
          have a5 : wq.cell? ⟨w.heap.size, 5, none⟩ = some (.map none) := by simp [World.cell?, q1]
          have b0 : wq.cell? ⟨w7.heap.size, 0, none⟩ = some (.int .i32 0) := by simp [World.cell?, q2]
          have b1 : wq.cell? ⟨w7.heap.size, 1, none⟩ = some (.int .i32 0) := by simp [World.cell?, q2]
          go_simp
          try (with_reducible rfl)
        try go_frame
        refine wpAnyH_take (i := 4) (oi := { dst := some 32, op := Op.makeInterface 9 (Operand.tmp 31), type := 20, pos := "tsconfig_json.go:423", after := #[{ on := 3, ground := Ground.data }], guard := none }) (v := ?_) rfl (by kernel_rfl) (by kernel_rfl) (by kernel_rfl) (fun _ _ _ h => h) (Or.inl ⟨by rfl, ?_⟩) (by assumption) ?_
        rotate_left
        · intro wq hSw
          obtain ⟨q1, q2⟩ := hSw
          have a0 : wq.cell? ⟨w.heap.size, 0, none⟩ = some (.func (Fn.func 16) #[] #[.pointer (some ⟨K, 0, none⟩), .pointer (some ⟨M, 0, none⟩), .pointer (some ⟨E, 0, none⟩), .pointer (some ⟨S, 0, none⟩)]) := by simp [World.cell?, q1]
          have a1 : wq.cell? ⟨w.heap.size, 1, none⟩ = some (.func (Fn.func 19) #[] #[.pointer (some ⟨M, 0, none⟩), .pointer (some ⟨E, 0, none⟩)]) := by simp [World.cell?, q1]
          have a2 : wq.cell? ⟨w.heap.size, 2, none⟩ = some (.func (Fn.func 20) #[] #[.pointer (some ⟨M, 0, none⟩), .pointer (some ⟨S, 0, none⟩)]) := by simp [World.cell?, q1]
          have a3 : wq.cell? ⟨w.heap.size, 3, none⟩ = some (.func (Fn.func 21) #[] #[.pointer (some ⟨M, 0, none⟩), .pointer (some ⟨S, 0, none⟩)]) := by simp [World.cell?, q1]
          have a4 : wq.cell? ⟨w.heap.size, 4, none⟩ = some (.int .i8 3) := by simp [World.cell?, q1]
          have a5 : wq.cell? ⟨w.heap.size, 5, none⟩ = some (.map none) := by simp [World.cell?, q1]
          have b0 : wq.cell? ⟨w7.heap.size, 0, none⟩ = some (.int .i32 0) := by simp [World.cell?, q2]
          have b1 : wq.cell? ⟨w7.heap.size, 1, none⟩ = some (.int .i32 0) := by simp [World.cell?, q2]
          go_simp
          try (with_reducible rfl)
        try go_frame
        refine wpAnyH_ready (rs := [5]) (by kernel_rfl) (by simp) ?_
        refine AllReadyH.cons rfl (fun K' hK => ?_) AllReadyH.nil
        have hz8 : w8.heap.size = w7.heap.size + 1 := by rw [← hw8]; simp
        have y2 : ∀ o, ((w8.alloc o).drew).heap[w.heap.size]? = some (.cells #[.func (Fn.func 16) #[] #[.pointer (some ⟨K, 0, none⟩), .pointer (some ⟨M, 0, none⟩), .pointer (some ⟨E, 0, none⟩), .pointer (some ⟨S, 0, none⟩)], .func (Fn.func 19) #[] #[.pointer (some ⟨M, 0, none⟩), .pointer (some ⟨E, 0, none⟩)], .func (Fn.func 20) #[] #[.pointer (some ⟨M, 0, none⟩), .pointer (some ⟨S, 0, none⟩)], .func (Fn.func 21) #[] #[.pointer (some ⟨M, 0, none⟩), .pointer (some ⟨S, 0, none⟩)], .int .i8 3, .map none] 37 (0, 0)) := fun o => (blk_alloc_lt w8 o _ (by omega)).trans y0
        have y3 : ∀ o, ((w8.alloc o).drew).heap[w7.heap.size]? = some (.cells #[.int .i32 0, .int .i32 0] 76 (0, 0)) := fun o => (blk_alloc_lt w8 o _ (by omega)).trans y1
        go_simp
        refine hK.out _ _ ⟨y2 _, y3 _⟩ (fun hHeld => ?_)
        clear hK K'
        try go_frame
        refine wpAnyH_ready (rs := [6]) (by kernel_rfl) (by simp) ?_
        refine AllReadyH.cons rfl (fun K' hK => ?_) AllReadyH.nil
        go_simp
        refine hK.out _ _ ⟨y2 _, y3 _⟩ (fun hHeld => ?_)
        clear hK K'
        try go_frame
        refine wpAnyH_ready (rs := [7]) (by kernel_rfl) (by simp) ?_
        refine AllReadyH.cons rfl (fun K' hK => ?_) AllReadyH.nil
        go_simp
        have e9 : ∀ q, q < w.heap.size → (w8.alloc (.cells #[.iface 9 (.string s)] 20)).drew.drew.heap[q]? = w.heap[q]? := fun q hq => (blk_alloc_lt w8 _ q (by omega)).trans (by rw [← hw8]; exact (blk_alloc_lt w7 _ q (by omega)).trans ((HB7.out.block q (by simp; omega)).trans ((blk_alloc_lt _ _ _ (by simp; omega)).trans (blk_alloc_lt _ _ _ hq))))
        have kM := (Array.getElem?_eq_some_iff.1 HL.out.m).1
        have kS := (Array.getElem?_eq_some_iff.1 HL.out.s).1
        have kK := (Array.getElem?_eq_some_iff.1 HL.out.k).1
        have kE := (Array.getElem?_eq_some_iff.1 HL.out.e).1
        have kT := HT.out.lt
        refine (addid24 K M E S T 66 _ _ (lg_block HL.out (fun q hq => e9 q (by rcases hq with rfl | rfl | rfl | rfl <;> assumption))) (HT.out.of_block (e9 T kT)) (by decide) (by decide) hd.1 hd.2.1 hd.2.2.1 hd.2.2.2.1 hd.2.2.2.2.1 hd.2.2.2.2.2.1 hd.2.2.2.2.2.2.1 hd.2.2.2.2.2.2.2.1 hd.2.2.2.2.2.2.2.2).mono ?_
        rintro e w10 ⟨rfl, hg, far, bel⟩
        go_simp
        refine hK.out _ _ ⟨(far _ (by omega) (by omega) (by omega) (by simp; omega)).trans (y2 _), (far _ (by omega) (by omega) (by omega) (by simp; omega)).trans (y3 _)⟩ (fun hHeld => ?_)
        clear hK K'
        try go_frame
        have HG := Lib.hid hg
        have HB10 : Hid (∀ B, B ≤ M → B ≤ S → B ≤ T → B ≤ w.heap.size → Below B w w10) := Lib.hid fun B h1 h2 h3 h4 => by
          refine Below.trans ?_ (bel B h1 h2 h3 (by simp; omega))
          have b8 : Below B w w8 := by
            rw [← hw8]
            exact ((((Below.refl B w).alloc h4 _).alloc (by simp; omega) _).trans (HB7.out.mono (by simp; omega))).alloc (by omega) _
          exact ((b8.alloc (by omega) _).drew).drew
        have HF10 : Hid (∀ q, q ≠ M → q ≠ S → q ≠ T → q < w.heap.size → w10.heap[q]? = w.heap[q]?) := Lib.hid fun q g1 g2 g3 g4 => (far q g1 g2 g3 (by simp; omega)).trans (e9 q g4)
        have C2 : Hid (2 ≤ cnt s s.size) := Lib.hid (by have := cnt_mono s (k + 1) s.size (by omega); rw [HST.out, h1] at this; exact this)
        clear hg far bel y0 y1 y2 y3 e9 l7
        refine wpAnyH_done (by kernel_rfl) ?_ _
        go_wp2
        go_ret
        exact ⟨.inr ⟨C2.out, rfl, HG.out⟩, HF10.out, HB10.out⟩
      · have D := decide_eq_false h1
        rw [D]
        have N1 : cnt s (k + 1) = 1 := by rw [hst, if_pos he]; omega
        clear he hst D
        go_wp2
        exact ⟨⟨k + 1, by omega, by rw [N1]; rfl, by go_num, by omega⟩, by simp [intOf]; omega⟩
    · have e1 : ((s[k].toNat : Int) == 42) = false := by
        rw [beq_eq_false_iff_ne]; intro h; exact he (UInt8.toNat_inj.1 (by show s[k].toNat = 42; omega))
      have N1 : cnt s (k + 1) = cnt s k := by rw [hst, if_neg he]; rfl
      clear he hst
      go_wp2
      exact ⟨⟨k + 1, by omega, by rw [N1], by go_num, by omega⟩, by simp [intOf]; omega⟩
  · obtain rfl : k = s.size := by omega
    have HC := Lib.hid hc
    go_wp2
    go_ret
    exact ⟨.inl ⟨HC.out, rfl, ⟨(blk_alloc_lt _ _ _ (by have := (Array.getElem?_eq_some_iff.1 HL.out.k).1; simp; omega)).trans ((blk_alloc_lt _ _ _ (Array.getElem?_eq_some_iff.1 HL.out.k).1).trans HL.out.k), (blk_alloc_lt _ _ _ (by have := (Array.getElem?_eq_some_iff.1 HL.out.m).1; simp; omega)).trans ((blk_alloc_lt _ _ _ (Array.getElem?_eq_some_iff.1 HL.out.m).1).trans HL.out.m), (blk_alloc_lt _ _ _ (by have := (Array.getElem?_eq_some_iff.1 HL.out.e).1; simp; omega)).trans ((blk_alloc_lt _ _ _ (Array.getElem?_eq_some_iff.1 HL.out.e).1).trans HL.out.e), (blk_alloc_lt _ _ _ (by have := (Array.getElem?_eq_some_iff.1 HL.out.s).1; simp; omega)).trans ((blk_alloc_lt _ _ _ (Array.getElem?_eq_some_iff.1 HL.out.s).1).trans HL.out.s)⟩⟩, fun q _ _ _ h4 => (blk_alloc_lt _ _ _ (by simp; omega)).trans (blk_alloc_lt _ _ _ h4), fun B h1 h2 h3 h4 => ((Below.refl B w).alloc h4 _).alloc (by simp; omega) _⟩
theorem src_alloc (w : World) : (w.alloc (.cells #[.string { data := #[] }, .string { data := #[] }, .string { data := #[] }, .string { data := #[] }, .string { data := #[] }, .string { data := #[] }, .string { data := #[] }, .string { data := #[] }, .int .u8 0, .int .u32 0] 49)).rowIs w.heap.size 49 10 src0 :=
  World.rowIs_alloc w #[.string { data := #[] }, .string { data := #[] }, .string { data := #[] }, .string { data := #[] }, .string { data := #[] }, .string { data := #[] }, .string { data := #[] }, .string { data := #[] }, .int .u8 0, .int .u32 0] 49 _ (fun i hi => by
    match i, hi with
    | 0, _ => rfl
    | 1, _ => rfl
    | 2, _ => rfl
    | 3, _ => rfl
    | 4, _ => rfl
    | 5, _ => rfl
    | 6, _ => rfl
    | 7, _ => rfl
    | 8, _ => rfl
    | 9, _ => rfl)
theorem trk_alloc (w : World) : (w.alloc (.cells #[.string { data := #[] }, .string { data := #[] }, .string { data := #[] }, .int .i32 0, .int .i32 0, .int .i32 0, .int .i32 0, .bool true, .bool false, .bool true] 57)).rowIs w.heap.size 57 10 (trk false) :=
  World.rowIs_alloc w #[.string { data := #[] }, .string { data := #[] }, .string { data := #[] }, .int .i32 0, .int .i32 0, .int .i32 0, .int .i32 0, .bool true, .bool false, .bool true] 57 _ (fun i hi => by
    match i, hi with
    | 0, _ => rfl
    | 1, _ => rfl
    | 2, _ => rfl
    | 3, _ => rfl
    | 4, _ => rfl
    | 5, _ => rfl
    | 6, _ => rfl
    | 7, _ => rfl
    | 8, _ => rfl
    | 9, _ => rfl)
def okP (s : ByteArray) : Bool := decide (cnt s s.size ≤ 1)
set_option maxRecDepth 20000 in
set_option maxHeartbeats 2000000 in
theorem zz10 (s : ByteArray) (w : World) (hs : s.size ≤ 1048576) : Calls Tryf.prog 10 #[.string s] w fun e w' => e = .returned (.tuple #[.bool (okP s), .int .i64 (if okP s then 0 else 1)]) ∧ Below w.heap.size w w' := by
  have hsf := run_store_func
  obtain ⟨ob, hob⟩ : ∃ ob, ob = okP s := ⟨_, rfl⟩
  rw [← hob]
  have HOB := Lib.hid hob
  clear hob
  go_enter Tryf.func10, Tryf.ntmps10
  go_wp2_with (fail)
  refine (new11 _).mono ?_
  rintro e w2 ⟨rfl, hb, hl⟩
  have HB := Lib.hid hb; have HL := Lib.hid hl
  clear hb hl
  have z2 : w.heap.size + 4 < w2.heap.size := (Array.getElem?_eq_some_iff.1 HL.out.e).1
  unfold logv ptr
  go_wp2_with (fail)
  refine (tracker14 (w2.heap.size + 1) _ (by have := src_alloc (w2.alloc (.cells #[.func (Fn.func 16) #[] #[.pointer (some ⟨w.heap.size, 0, none⟩), .pointer (some ⟨w.heap.size + 3, 0, none⟩), .pointer (some ⟨w.heap.size + 4, 0, none⟩), .pointer (some ⟨w.heap.size + 2, 0, none⟩)], .func (Fn.func 19) #[] #[.pointer (some ⟨w.heap.size + 3, 0, none⟩), .pointer (some ⟨w.heap.size + 4, 0, none⟩)], .func (Fn.func 20) #[] #[.pointer (some ⟨w.heap.size + 3, 0, none⟩), .pointer (some ⟨w.heap.size + 2, 0, none⟩)], .func (Fn.func 21) #[] #[.pointer (some ⟨w.heap.size + 3, 0, none⟩), .pointer (some ⟨w.heap.size + 2, 0, none⟩)], .int .i8 3, .map none] 37)); rw [World.size_alloc] at this; exact this)).mono ?_
  rintro e w3 ⟨rfl, hb3⟩
  have z3 := hb3.size
  simp only [World.size_alloc] at z3
  have e3 : ∀ q, q < w2.heap.size + 2 → w3.heap[q]? = ((w2.alloc (.cells #[.func (Fn.func 16) #[] #[.pointer (some ⟨w.heap.size, 0, none⟩), .pointer (some ⟨w.heap.size + 3, 0, none⟩), .pointer (some ⟨w.heap.size + 4, 0, none⟩), .pointer (some ⟨w.heap.size + 2, 0, none⟩)], .func (Fn.func 19) #[] #[.pointer (some ⟨w.heap.size + 3, 0, none⟩), .pointer (some ⟨w.heap.size + 4, 0, none⟩)], .func (Fn.func 20) #[] #[.pointer (some ⟨w.heap.size + 3, 0, none⟩), .pointer (some ⟨w.heap.size + 2, 0, none⟩)], .func (Fn.func 21) #[] #[.pointer (some ⟨w.heap.size + 3, 0, none⟩), .pointer (some ⟨w.heap.size + 2, 0, none⟩)], .int .i8 3, .map none] 37)).alloc (.cells #[.string { data := #[] }, .string { data := #[] }, .string { data := #[] }, .string { data := #[] }, .string { data := #[] }, .string { data := #[] }, .string { data := #[] }, .string { data := #[] }, .int .u8 0, .int .u32 0] 49)).heap[q]? := fun q hq => hb3.block q (by simp; omega)
  have l3 : w3.heap[w2.heap.size]? = some (.cells #[.func (Fn.func 16) #[] #[.pointer (some ⟨w.heap.size, 0, none⟩), .pointer (some ⟨w.heap.size + 3, 0, none⟩), .pointer (some ⟨w.heap.size + 4, 0, none⟩), .pointer (some ⟨w.heap.size + 2, 0, none⟩)], .func (Fn.func 19) #[] #[.pointer (some ⟨w.heap.size + 3, 0, none⟩), .pointer (some ⟨w.heap.size + 4, 0, none⟩)], .func (Fn.func 20) #[] #[.pointer (some ⟨w.heap.size + 3, 0, none⟩), .pointer (some ⟨w.heap.size + 2, 0, none⟩)], .func (Fn.func 21) #[] #[.pointer (some ⟨w.heap.size + 3, 0, none⟩), .pointer (some ⟨w.heap.size + 2, 0, none⟩)], .int .i8 3, .map none] 37 (0, 0)) := (e3 _ (by omega)).trans ((blk_alloc_lt _ _ _ (by simp)).trans (heap_alloc_new w2 _))
  have s3 : w3.rowIs (w2.heap.size + 1) 49 10 src0 := by
    have := src_alloc (w2.alloc (.cells #[.func (Fn.func 16) #[] #[.pointer (some ⟨w.heap.size, 0, none⟩), .pointer (some ⟨w.heap.size + 3, 0, none⟩), .pointer (some ⟨w.heap.size + 4, 0, none⟩), .pointer (some ⟨w.heap.size + 2, 0, none⟩)], .func (Fn.func 19) #[] #[.pointer (some ⟨w.heap.size + 3, 0, none⟩), .pointer (some ⟨w.heap.size + 4, 0, none⟩)], .func (Fn.func 20) #[] #[.pointer (some ⟨w.heap.size + 3, 0, none⟩), .pointer (some ⟨w.heap.size + 2, 0, none⟩)], .func (Fn.func 21) #[] #[.pointer (some ⟨w.heap.size + 3, 0, none⟩), .pointer (some ⟨w.heap.size + 2, 0, none⟩)], .int .i8 3, .map none] 37))
    rw [World.size_alloc] at this
    exact this.of_block (e3 _ (by omega))
  have L3 : Lg w3 w.heap.size (w.heap.size + 3) (w.heap.size + 4) (w.heap.size + 2) (.slice none 0 0) := lg_block HL.out (fun q hq => (e3 q (by rcases hq with rfl | rfl | rfl | rfl <;> omega)).trans ((blk_alloc_lt _ _ _ (by simp; rcases hq with rfl | rfl | rfl | rfl <;> omega)).trans (blk_alloc_lt _ _ _ (by rcases hq with rfl | rfl | rfl | rfl <;> omega))))
  have B3 := Lib.hid (((HB.out.alloc HB.out.size (.cells #[.func (Fn.func 16) #[] #[.pointer (some ⟨w.heap.size, 0, none⟩), .pointer (some ⟨w.heap.size + 3, 0, none⟩), .pointer (some ⟨w.heap.size + 4, 0, none⟩), .pointer (some ⟨w.heap.size + 2, 0, none⟩)], .func (Fn.func 19) #[] #[.pointer (some ⟨w.heap.size + 3, 0, none⟩), .pointer (some ⟨w.heap.size + 4, 0, none⟩)], .func (Fn.func 20) #[] #[.pointer (some ⟨w.heap.size + 3, 0, none⟩), .pointer (some ⟨w.heap.size + 2, 0, none⟩)], .func (Fn.func 21) #[] #[.pointer (some ⟨w.heap.size + 3, 0, none⟩), .pointer (some ⟨w.heap.size + 2, 0, none⟩)], .int .i8 3, .map none] 37)).alloc (by simp; omega) (.cells #[.string { data := #[] }, .string { data := #[] }, .string { data := #[] }, .string { data := #[] }, .string { data := #[] }, .string { data := #[] }, .string { data := #[] }, .string { data := #[] }, .int .u8 0, .int .u32 0] 49)).trans (hb3.mono (by simp; omega)))
  have HL3 := Lib.hid L3; have HS3 := Lib.hid s3; have Hl3 := Lib.hid l3
  have lt3 : w2.heap.size < w3.heap.size := by omega
  have c0 : w3.cell? ⟨w2.heap.size, 0, none⟩ = some (.func (Fn.func 16) #[] #[.pointer (some ⟨w.heap.size, 0, none⟩), .pointer (some ⟨w.heap.size + 3, 0, none⟩), .pointer (some ⟨w.heap.size + 4, 0, none⟩), .pointer (some ⟨w.heap.size + 2, 0, none⟩)]) := by simp [World.cell?, l3]
  have c1 : w3.cell? ⟨w2.heap.size, 1, none⟩ = some (.func (Fn.func 19) #[] #[.pointer (some ⟨w.heap.size + 3, 0, none⟩), .pointer (some ⟨w.heap.size + 4, 0, none⟩)]) := by simp [World.cell?, l3]
  have c2 : w3.cell? ⟨w2.heap.size, 2, none⟩ = some (.func (Fn.func 20) #[] #[.pointer (some ⟨w.heap.size + 3, 0, none⟩), .pointer (some ⟨w.heap.size + 2, 0, none⟩)]) := by simp [World.cell?, l3]
  have c3 : w3.cell? ⟨w2.heap.size, 3, none⟩ = some (.func (Fn.func 21) #[] #[.pointer (some ⟨w.heap.size + 3, 0, none⟩), .pointer (some ⟨w.heap.size + 2, 0, none⟩)]) := by simp [World.cell?, l3]
  have c4 : w3.cell? ⟨w2.heap.size, 4, none⟩ = some (.int .i8 3) := by simp [World.cell?, l3]
  have c5 : w3.cell? ⟨w2.heap.size, 5, none⟩ = some (.map none) := by simp [World.cell?, l3]
  have T4 := Lib.hid (trk_alloc w3)
  clear L3 s3 l3 e3 hb3
  go_wp2_with (fail)
  have T5 := T4.out
  have L4 := lg_block HL3.out (fun q hq => blk_alloc_lt w3 (.cells #[.string { data := #[] }, .string { data := #[] }, .string { data := #[] }, .int .i32 0, .int .i32 0, .int .i32 0, .int .i32 0, .bool true, .bool false, .bool true] 57) q (by rcases hq with rfl | rfl | rfl | rfl <;> omega))
  refine (pat15 s w.heap.size (w.heap.size + 3) (w.heap.size + 4) (w.heap.size + 2) w3.heap.size (w2.heap.size + 1) _ hs L4 T5 (HS3.out.alloc _) ⟨by omega, by omega, by omega, by omega, by omega, by omega, by omega, by omega, by omega⟩).mono ?_
  rintro e w4 ⟨hv, far, bel⟩
  have l4 : w4.heap[w2.heap.size]? = some (.cells #[.func (Fn.func 16) #[] #[.pointer (some ⟨w.heap.size, 0, none⟩), .pointer (some ⟨w.heap.size + 3, 0, none⟩), .pointer (some ⟨w.heap.size + 4, 0, none⟩), .pointer (some ⟨w.heap.size + 2, 0, none⟩)], .func (Fn.func 19) #[] #[.pointer (some ⟨w.heap.size + 3, 0, none⟩), .pointer (some ⟨w.heap.size + 4, 0, none⟩)], .func (Fn.func 20) #[] #[.pointer (some ⟨w.heap.size + 3, 0, none⟩), .pointer (some ⟨w.heap.size + 2, 0, none⟩)], .func (Fn.func 21) #[] #[.pointer (some ⟨w.heap.size + 3, 0, none⟩), .pointer (some ⟨w.heap.size + 2, 0, none⟩)], .int .i8 3, .map none] 37 (0, 0)) := (far _ (by omega) (by omega) (by omega) (by simp; omega)).trans ((blk_alloc_lt _ _ _ lt3).trans Hl3.out)
  have c3' : w4.cell? ⟨w2.heap.size, 3, none⟩ = some (.func (Fn.func 21) #[] #[.pointer (some ⟨w.heap.size + 3, 0, none⟩), .pointer (some ⟨w.heap.size + 2, 0, none⟩)]) := by simp [World.cell?, l4]
  have B4 := Lib.hid ((B3.out.alloc B3.out.size (.cells #[.string { data := #[] }, .string { data := #[] }, .string { data := #[] }, .int .i32 0, .int .i32 0, .int .i32 0, .int .i32 0, .bool true, .bool false, .bool true] 57)).trans (bel w.heap.size (by omega) (by omega) (by omega) (by simp; have := B3.out.size; omega)))
  clear far bel l4 c0 c1 c2 c3 c4 c5
  rcases hv with ⟨hc, rfl, hl4⟩ | ⟨hc, rfl, g, c, hl4⟩
  · have D := Lib.hid (done21 w.heap.size (w.heap.size + 3) (w.heap.size + 4) (w.heap.size + 2) none 0 0 (by omega) w4 hl4 (by omega) (by omega) (by omega))
    have HOK : Hid (ob = true) := Lib.hid (HOB.out.trans (decide_eq_true hc))
    clear hl4 hc
    unfold ptr at D
    go_wp2_with (fail)
    refine D.out.mono ?_
    rintro e w5 ⟨rfl, _, _, hb5⟩
    have B5 := Lib.hid (B4.out.trans (hb5 w.heap.size (by omega)))
    clear hb5
    go_wp2
    go_returns
    have ho := HOK.out
    subst ho
    exact ⟨by first | rfl | simp, B5.out⟩
  · have D := Lib.hid (done21 w.heap.size (w.heap.size + 3) (w.heap.size + 4) (w.heap.size + 2) (some ⟨g, 0, none⟩) 1 c (by omega) w4 hl4 (by omega) (by omega) (by omega))
    have HOK : Hid (ob = false) := Lib.hid (HOB.out.trans (decide_eq_false (by omega)))
    clear hl4 hc
    unfold ptr at D
    go_wp2_with (fail)
    refine D.out.mono ?_
    rintro e w5 ⟨rfl, _, _, hb5⟩
    have B5 := Lib.hid (B4.out.trans (hb5 w.heap.size (by omega)))
    clear hb5
    have ho := HOK.out
    subst ho
    go_wp2
    exact bodyPost_ret (v := .tuple #[.bool false, .int .i64 1]) (by simp [results, Tryf.results10, go_sem]) rfl ⟨rfl, B5.out⟩
end Go.Proofs.YtlhdihdlkejjdaaFmt.DfF
