/- notifyRequest and the recorder by their contracts. Conditions: bounds of the duration. -/
import Derived.Test.YtokgfimcpgnjlaaNotC
import Derived.RegionTactic
import Derived.ChangeAlike
namespace Go.Proofs.Ytokgfimcpgnjlaa.NotD
open Go.RowKit Go.Deep Go.Proofs.Ytokgfimcpgnjlaa.Base Go.Proofs.Ytokgfimcpgnjlaa.NotA Go.Proofs.Ytokgfimcpgnjlaa.NotC
set_option linter.unusedVariables false
set_option maxRecDepth 20000 in
theorem notify7 (a b c : ByteArray) (st d : Int) (f : Nat → Value) (w : World) (bg bc hb rb ub : Nat) (hg : w.rowIs bg 24 5 f) (hc : w.rowIs bc 3 1 (one (.int .i64 0))) (hne : bg ≠ bc) (n1 : hb ≠ bg ∧ hb ≠ bc ∧ hb < w.heap.size) (n2 : rb ≠ bg ∧ rb ≠ bc ∧ rb < w.heap.size) (n3 : ub ≠ bg ∧ ub ≠ bc ∧ ub < w.heap.size) (hd0 : -1125899906842624 ≤ d) (hd1 : d ≤ 1125899906842624)
    (k1 : w.cell? ⟨hb, 0, none⟩ = some (.func (Fn.func 6) #[] #[.pointer (some ⟨bg, 0, none⟩), .pointer (some ⟨bc, 0, none⟩)])) (k2 : w.cell? ⟨rb, 16, none⟩ = some (.string a)) (k3 : w.cell? ⟨rb, 0, none⟩ = some (.string b)) (k4 : w.cell? ⟨rb, 1, none⟩ = some (.pointer (some ⟨ub, 0, none⟩))) (k5 : w.cell? ⟨ub, 4, none⟩ = some (.string c)) :
    Calls Try.prog 7 #[.pointer (some ⟨hb, 0, none⟩), .int .i64 d, .pointer (some ⟨rb, 0, none⟩), .int .i64 st] w fun e w' => e = .returned (.tuple #[]) ∧ w'.rowIs bg 24 5 (fiv (.string a) (.string b) (.string c) (.int .i64 st) (.int .i64 (d.tdiv 1000000))) ∧ w'.rowIs bc 3 1 (one (.int .i64 1)) ∧ (∀ x, x < w.heap.size → x ≠ bg → x ≠ bc → w'.heap[x]? = w.heap[x]?) ∧ (∀ B, B ≤ bg → B ≤ bc → Below B w w') := by
  have HG := Lib.hid hg; have HC := Lib.hid hc
  clear hg hc
  have hnq : ∀ wz : World, Sem.run Try.prog (binOp BinOp.neq 28 (.func (Fn.func 6) #[] #[.pointer (some ⟨bg, 0, none⟩), .pointer (some ⟨bc, 0, none⟩)]) .nilFunc) wz = .ok (.bool true) wz := fun wz => by kernel_rfl
  go_enter Try.func7, Try.ntmps7
  go_wp2
  refine wp_region_held_drew (S := fun w' => w'.cell? ⟨hb, 0, none⟩ = some (.func (Fn.func 6) #[] #[.pointer (some ⟨bg, 0, none⟩), .pointer (some ⟨bc, 0, none⟩)]) ∧ w'.cell? ⟨rb, 16, none⟩ = some (.string a) ∧ w'.cell? ⟨rb, 0, none⟩ = some (.string b) ∧ w'.cell? ⟨rb, 1, none⟩ = some (.pointer (some ⟨ub, 0, none⟩)) ∧ w'.cell? ⟨ub, 4, none⟩ = some (.string c)) (by kernel_rfl) ⟨k1, k2, k3, k4, k5⟩ (fun hHeld => ?_)
  refine wpAnyH_take (i := 0) (oi := { dst := some 13, op := Op.move (Operand.tmp 0), type := 27, pos := "serve_other.go:78", after := #[], guard := none }) (v := ?_) rfl (by kernel_rfl) (by kernel_rfl) (by kernel_rfl) (fun _ _ _ h => h) (Or.inl ⟨by rfl, ?_⟩) (by assumption) ?_
  rotate_left
  · intro wq hSw
    obtain ⟨q1, q2, q3, q4, q5⟩ := hSw
    go_simp
    try (with_reducible rfl)
  try go_frame
  refine wpAnyH_take (i := 1) (oi := { dst := some 14, op := Op.nilCheck (Operand.tmp 13), type := 0, pos := "serve_other.go:78", after := #[{ on := 0, ground := Ground.data }], guard := none }) (v := ?_) rfl (by kernel_rfl) (by kernel_rfl) (by kernel_rfl) (fun _ _ _ h => h) (Or.inl ⟨by rfl, ?_⟩) (by assumption) ?_
  rotate_left
  · intro wq hSw
    obtain ⟨q1, q2, q3, q4, q5⟩ := hSw
    go_simp
    try (with_reducible rfl)
  try go_frame
  refine wpAnyH_take (i := 2) (oi := { dst := some 15, op := Op.fieldAddr 50 (Operand.tmp 14) 0, type := 0, pos := "serve_other.go:78", after := #[{ on := 1, ground := Ground.data }], guard := none }) (v := ?_) rfl (by kernel_rfl) (by kernel_rfl) (by kernel_rfl) (fun _ _ _ h => h) (Or.inl ⟨by rfl, ?_⟩) (by assumption) ?_
  rotate_left
  · intro wq hSw
    obtain ⟨q1, q2, q3, q4, q5⟩ := hSw
    go_simp
    try (with_reducible rfl)
  try go_frame
  refine wpAnyH_take (i := 3) (oi := { dst := some 16, op := Op.load 28 (Operand.tmp 15), type := 28, pos := "serve_other.go:78", after := #[{ on := 2, ground := Ground.data }], guard := none }) (v := ?_) rfl (by kernel_rfl) (by kernel_rfl) (by kernel_rfl) (fun _ _ _ h => h) (Or.inl ⟨by rfl, ?_⟩) (by assumption) ?_
  rotate_left
  · intro wq hSw
    obtain ⟨q1, q2, q3, q4, q5⟩ := hSw
    go_simp
    try (with_reducible rfl)
  try go_frame
  refine wpAnyH_take (i := 4) (oi := { dst := some 17, op := Op.move (Operand.tmp 2), type := 53, pos := "serve_other.go:78", after := #[], guard := none }) (v := ?_) rfl (by kernel_rfl) (by kernel_rfl) (by kernel_rfl) (fun _ _ _ h => h) (Or.inl ⟨by rfl, ?_⟩) (by assumption) ?_
  rotate_left
  · intro wq hSw
    obtain ⟨q1, q2, q3, q4, q5⟩ := hSw
    go_simp
    try (with_reducible rfl)
  try go_frame
  refine wpAnyH_take (i := 5) (oi := { dst := some 18, op := Op.nilCheck (Operand.tmp 17), type := 0, pos := "serve_other.go:78", after := #[{ on := 4, ground := Ground.data }], guard := none }) (v := ?_) rfl (by kernel_rfl) (by kernel_rfl) (by kernel_rfl) (fun _ _ _ h => h) (Or.inl ⟨by rfl, ?_⟩) (by assumption) ?_
  rotate_left
  · intro wq hSw
    obtain ⟨q1, q2, q3, q4, q5⟩ := hSw
    go_simp
    try (with_reducible rfl)
  try go_frame
  refine wpAnyH_take (i := 6) (oi := { dst := some 19, op := Op.fieldAddr 72 (Operand.tmp 18) 16, type := 0, pos := "serve_other.go:78", after := #[{ on := 5, ground := Ground.data }], guard := none }) (v := ?_) rfl (by kernel_rfl) (by kernel_rfl) (by kernel_rfl) (fun _ _ _ h => h) (Or.inl ⟨by rfl, ?_⟩) (by assumption) ?_
  rotate_left
  · intro wq hSw
    obtain ⟨q1, q2, q3, q4, q5⟩ := hSw
    go_simp
    try (with_reducible rfl)
  try go_frame
  refine wpAnyH_take (i := 7) (oi := { dst := some 20, op := Op.load 9 (Operand.tmp 19), type := 9, pos := "serve_other.go:78", after := #[{ on := 6, ground := Ground.data }], guard := none }) (v := ?_) rfl (by kernel_rfl) (by kernel_rfl) (by kernel_rfl) (fun _ _ _ h => h) (Or.inl ⟨by rfl, ?_⟩) (by assumption) ?_
  rotate_left
  · intro wq hSw
    obtain ⟨q1, q2, q3, q4, q5⟩ := hSw
    go_simp
    try (with_reducible rfl)
  try go_frame
  refine wpAnyH_take (i := 8) (oi := { dst := some 21, op := Op.move (Operand.tmp 2), type := 53, pos := "serve_other.go:78", after := #[], guard := none }) (v := ?_) rfl (by kernel_rfl) (by kernel_rfl) (by kernel_rfl) (fun _ _ _ h => h) (Or.inl ⟨by rfl, ?_⟩) (by assumption) ?_
  rotate_left
  · intro wq hSw
    obtain ⟨q1, q2, q3, q4, q5⟩ := hSw
    go_simp
    try (with_reducible rfl)
  try go_frame
  refine wpAnyH_take (i := 9) (oi := { dst := some 22, op := Op.nilCheck (Operand.tmp 21), type := 0, pos := "serve_other.go:78", after := #[{ on := 8, ground := Ground.data }], guard := none }) (v := ?_) rfl (by kernel_rfl) (by kernel_rfl) (by kernel_rfl) (fun _ _ _ h => h) (Or.inl ⟨by rfl, ?_⟩) (by assumption) ?_
  rotate_left
  · intro wq hSw
    obtain ⟨q1, q2, q3, q4, q5⟩ := hSw
    go_simp
    try (with_reducible rfl)
  try go_frame
  refine wpAnyH_take (i := 10) (oi := { dst := some 23, op := Op.fieldAddr 72 (Operand.tmp 22) 0, type := 0, pos := "serve_other.go:78", after := #[{ on := 9, ground := Ground.data }], guard := none }) (v := ?_) rfl (by kernel_rfl) (by kernel_rfl) (by kernel_rfl) (fun _ _ _ h => h) (Or.inl ⟨by rfl, ?_⟩) (by assumption) ?_
  rotate_left
  · intro wq hSw
    obtain ⟨q1, q2, q3, q4, q5⟩ := hSw
    go_simp
    try (with_reducible rfl)
  try go_frame
  refine wpAnyH_take (i := 11) (oi := { dst := some 24, op := Op.load 9 (Operand.tmp 23), type := 9, pos := "serve_other.go:78", after := #[{ on := 10, ground := Ground.data }], guard := none }) (v := ?_) rfl (by kernel_rfl) (by kernel_rfl) (by kernel_rfl) (fun _ _ _ h => h) (Or.inl ⟨by rfl, ?_⟩) (by assumption) ?_
  rotate_left
  · intro wq hSw
    obtain ⟨q1, q2, q3, q4, q5⟩ := hSw
    go_simp
    try (with_reducible rfl)
  try go_frame
  refine wpAnyH_take (i := 12) (oi := { dst := some 25, op := Op.move (Operand.tmp 2), type := 53, pos := "serve_other.go:78", after := #[], guard := none }) (v := ?_) rfl (by kernel_rfl) (by kernel_rfl) (by kernel_rfl) (fun _ _ _ h => h) (Or.inl ⟨by rfl, ?_⟩) (by assumption) ?_
  rotate_left
  · intro wq hSw
    obtain ⟨q1, q2, q3, q4, q5⟩ := hSw
    go_simp
    try (with_reducible rfl)
  try go_frame
  refine wpAnyH_take (i := 13) (oi := { dst := some 26, op := Op.nilCheck (Operand.tmp 25), type := 0, pos := "serve_other.go:78", after := #[{ on := 12, ground := Ground.data }], guard := none }) (v := ?_) rfl (by kernel_rfl) (by kernel_rfl) (by kernel_rfl) (fun _ _ _ h => h) (Or.inl ⟨by rfl, ?_⟩) (by assumption) ?_
  rotate_left
  · intro wq hSw
    obtain ⟨q1, q2, q3, q4, q5⟩ := hSw
    go_simp
    try (with_reducible rfl)
  try go_frame
  refine wpAnyH_take (i := 14) (oi := { dst := some 27, op := Op.fieldAddr 72 (Operand.tmp 26) 1, type := 0, pos := "serve_other.go:78", after := #[{ on := 13, ground := Ground.data }], guard := none }) (v := ?_) rfl (by kernel_rfl) (by kernel_rfl) (by kernel_rfl) (fun _ _ _ h => h) (Or.inl ⟨by rfl, ?_⟩) (by assumption) ?_
  rotate_left
  · intro wq hSw
    obtain ⟨q1, q2, q3, q4, q5⟩ := hSw
    go_simp
    try (with_reducible rfl)
  try go_frame
  refine wpAnyH_take (i := 15) (oi := { dst := some 28, op := Op.load 54 (Operand.tmp 27), type := 54, pos := "serve_other.go:78", after := #[{ on := 14, ground := Ground.data }], guard := none }) (v := ?_) rfl (by kernel_rfl) (by kernel_rfl) (by kernel_rfl) (fun _ _ _ h => h) (Or.inl ⟨by rfl, ?_⟩) (by assumption) ?_
  rotate_left
  · intro wq hSw
    obtain ⟨q1, q2, q3, q4, q5⟩ := hSw
    go_simp
    try (with_reducible rfl)
  try go_frame
  refine wpAnyH_take (i := 16) (oi := { dst := some 29, op := Op.nilCheck (Operand.tmp 28), type := 0, pos := "serve_other.go:78", after := #[{ on := 15, ground := Ground.data }], guard := none }) (v := ?_) rfl (by kernel_rfl) (by kernel_rfl) (by kernel_rfl) (fun _ _ _ h => h) (Or.inl ⟨by rfl, ?_⟩) (by assumption) ?_
  rotate_left
  · intro wq hSw
    obtain ⟨q1, q2, q3, q4, q5⟩ := hSw
    go_simp
    try (with_reducible rfl)
  try go_frame
  refine wpAnyH_take (i := 17) (oi := { dst := some 30, op := Op.fieldAddr 57 (Operand.tmp 29) 4, type := 0, pos := "serve_other.go:78", after := #[{ on := 16, ground := Ground.data }], guard := none }) (v := ?_) rfl (by kernel_rfl) (by kernel_rfl) (by kernel_rfl) (fun _ _ _ h => h) (Or.inl ⟨by rfl, ?_⟩) (by assumption) ?_
  rotate_left
  · intro wq hSw
    obtain ⟨q1, q2, q3, q4, q5⟩ := hSw
    go_simp
    try (with_reducible rfl)
  try go_frame
  refine wpAnyH_take (i := 18) (oi := { dst := some 31, op := Op.load 9 (Operand.tmp 30), type := 9, pos := "serve_other.go:78", after := #[{ on := 17, ground := Ground.data }], guard := none }) (v := ?_) rfl (by kernel_rfl) (by kernel_rfl) (by kernel_rfl) (fun _ _ _ h => h) (Or.inl ⟨by rfl, ?_⟩) (by assumption) ?_
  rotate_left
  · intro wq hSw
    obtain ⟨q1, q2, q3, q4, q5⟩ := hSw
    go_simp
    try (with_reducible rfl)
  try go_frame
  refine wpAnyH_take (i := 19) (oi := { dst := some 32, op := Op.move (Operand.tmp 3), type := 3, pos := "serve_other.go:78", after := #[], guard := none }) (v := ?_) rfl (by kernel_rfl) (by kernel_rfl) (by kernel_rfl) (fun _ _ _ h => h) (Or.inl ⟨by rfl, ?_⟩) (by assumption) ?_
  rotate_left
  · intro wq hSw
    obtain ⟨q1, q2, q3, q4, q5⟩ := hSw
    go_simp
    try (with_reducible rfl)
  try go_frame
  refine wpAnyH_take (i := 20) (oi := { dst := some 33, op := Op.move (Operand.tmp 1), type := 52, pos := "serve_other.go:78", after := #[], guard := none }) (v := ?_) rfl (by kernel_rfl) (by kernel_rfl) (by kernel_rfl) (fun _ _ _ h => h) (Or.inl ⟨by rfl, ?_⟩) (by assumption) ?_
  rotate_left
  · intro wq hSw
    obtain ⟨q1, q2, q3, q4, q5⟩ := hSw
    go_simp
    try (with_reducible rfl)
  try go_frame
  refine wpAnyH_ready (rs := [21]) (by kernel_rfl) (by simp) ?_
  refine AllReadyH.cons rfl (fun K hK => ?_) AllReadyH.nil
  go_simp
  refine (ms8 d _ hd0 hd1).mono ?_
  rintro e w2 ⟨rfl, rfl⟩
  go_simp
  refine hK.out _ _ (by assumption) (fun hHeld => ?_)
  clear hK K
  try go_frame
  refine wpAnyH_take (i := 22) (oi := { dst := some 35, op := Op.build 24 #[(0, Operand.tmp 20), (1, Operand.tmp 24), (2, Operand.tmp 31), (3, Operand.tmp 32), (4, Operand.tmp 34)], type := 24, pos := "serve_other.go:78", after := #[{ on := 7, ground := Ground.data }, { on := 11, ground := Ground.data }, { on := 18, ground := Ground.data }, { on := 19, ground := Ground.data }, { on := 21, ground := Ground.data }], guard := none }) (v := ?_) rfl (by kernel_rfl) (by kernel_rfl) (by kernel_rfl) (fun _ _ _ h => h) (Or.inl ⟨by rfl, ?_⟩) (by assumption) ?_
  rotate_left
  · intro wq hSw
    obtain ⟨q1, q2, q3, q4, q5⟩ := hSw
    go_simp
    try (with_reducible rfl)
  try go_frame
  refine wpAnyH_ready (rs := [23]) (by kernel_rfl) (by simp) ?_
  refine AllReadyH.cons rfl (fun K hK => ?_) AllReadyH.nil
  go_simp
  refine (hook6 a b c st _ f w.drew bg bc HG.out.drew HC.out.drew hne).mono ?_
  rintro e w2 ⟨rfl, g1, g2, g3, g4⟩
  go_simp
  have G3 : ∀ x o, x < w.heap.size → x ≠ bg → x ≠ bc → w2.cell? ⟨x, o, none⟩ = w.cell? ⟨x, o, none⟩ := fun x o hx h1 h2 => World.cell?_of_block (g3 x (by simpa using hx) h1 h2)
  refine hK.out _ _ ⟨by rw [G3 _ _ n1.2.2 n1.1 n1.2.1]; exact k1, by rw [G3 _ _ n2.2.2 n2.1 n2.2.1]; exact k2, by rw [G3 _ _ n2.2.2 n2.1 n2.2.1]; exact k3, by rw [G3 _ _ n2.2.2 n2.1 n2.2.1]; exact k4, by rw [G3 _ _ n3.2.2 n3.1 n3.2.1]; exact k5⟩ (fun hHeld => ?_)
  have GG := Lib.hid (And.intro g1 (And.intro g2 (And.intro g3 g4)))
  clear hK K g1 g2 g3 g4 G3
  try go_frame
  refine wpAnyH_done (by kernel_rfl) ?_ _
  go_wp2
  go_end0
  exact ⟨rfl, GG.out.1, GG.out.2.1, fun x hx h1 h2 => GG.out.2.2.1 x (by simpa using hx) h1 h2, fun B h1 h2 => ((Below.refl B w).drew).trans (GG.out.2.2.2 B h1 h2)⟩

theorem url_built (c : ByteArray) : ∃ cu, Try.prog.built 57 [(4, .string c)] = some cu ∧ cu[4]? = some (.string c) := ⟨(Try.prog.built 57 [(4, .string c)]).getD #[], by kernel_rfl, by kernel_rfl⟩
set_option maxRecDepth 20000 in
theorem rec5 (a b c : ByteArray) (st d : Int) (w : World) (hd0 : -1125899906842624 ≤ d) (hd1 : d ≤ 1125899906842624) :
    Calls Try.prog 5 #[.string a, .string b, .string c, .int .i64 st, .int .i64 d] w fun e w' => e = .returned (.tuple #[.agg #[.string a, .string b, .string c, .int .i64 st, .int .i64 (d.tdiv 1000000)], .int .i64 1]) ∧ Below w.heap.size w w' := by
  go_enter Try.func5, Try.ntmps5
  go_wp2_with (fail)
  have R0 : ∀ (x : World) (o0 o1 o2 o3 o4 : Obj), (((((x.alloc o0).alloc (.cells #[.string { data := #[] }, .string { data := #[] }, .string { data := #[] }, .int .i64 0, .int .i64 0] 24)).alloc o1).alloc o2).alloc o3 |>.alloc o4).rowIs (x.heap.size + 1) 24 5 (fiv (.string { data := #[] }) (.string { data := #[] }) (.string { data := #[] }) (.int .i64 0) (.int .i64 0)) := by
    intro x o0 o1 o2 o3 o4
    have := World.rowIs_alloc (x.alloc o0) #[.string { data := #[] }, .string { data := #[] }, .string { data := #[] }, .int .i64 0, .int .i64 0] 24 (fiv (.string { data := #[] }) (.string { data := #[] }) (.string { data := #[] }) (.int .i64 0) (.int .i64 0)) (fun i hi => by
      match i, hi with
      | 0, _ => rfl
      | 1, _ => rfl
      | 2, _ => rfl
      | 3, _ => rfl
      | 4, _ => rfl)
    rw [World.size_alloc] at this
    exact (((this.alloc _).alloc _).alloc _).alloc _
  have C0 : ∀ (x : World) (o0 o1 o2 o3 o4 : Obj), (((((x.alloc o0).alloc o1).alloc (.cells #[.int .i64 0] 3)).alloc o2).alloc o3 |>.alloc o4).rowIs (x.heap.size + 1 + 1) 3 1 (one (.int .i64 0)) := by
    intro x o0 o1 o2 o3 o4
    have := World.rowIs_alloc ((x.alloc o0).alloc o1) #[.int .i64 0] 3 (one (.int .i64 0)) (fun i hi => by
      match i, hi with
      | 0, _ => rfl)
    rw [World.size_alloc, World.size_alloc] at this
    exact ((this.alloc _).alloc _).alloc _
  have Z0 : ∀ (x : World) (o0 o1 o2 o3 o4 : Obj), (((((x.alloc (.cells #[.string { data := #[] }, .string { data := #[] }, .string { data := #[] }, .int .i64 0, .int .i64 0] 24)).alloc o0).alloc o1).alloc o2).alloc o3 |>.alloc o4).rowIs x.heap.size 24 5 (fiv (.string { data := #[] }) (.string { data := #[] }) (.string { data := #[] }) (.int .i64 0) (.int .i64 0)) := by
    intro x o0 o1 o2 o3 o4
    have := World.rowIs_alloc x #[.string { data := #[] }, .string { data := #[] }, .string { data := #[] }, .int .i64 0, .int .i64 0] 24 (fiv (.string { data := #[] }) (.string { data := #[] }) (.string { data := #[] }) (.int .i64 0) (.int .i64 0)) (fun i hi => by
      match i, hi with
      | 0, _ => rfl
      | 1, _ => rfl
      | 2, _ => rfl
      | 3, _ => rfl
      | 4, _ => rfl)
    exact ((((this.alloc _).alloc _).alloc _).alloc _).alloc _
  refine (notify7 a b c st d _ _ (w.heap.size + 1) (w.heap.size + 1 + 1) (w.heap.size + 1 + 1 + 1) (w.heap.size + 1 + 1 + 1 + 1 + 1) (w.heap.size + 1 + 1 + 1 + 1) (R0 _ _ _ _ _ _) (C0 _ _ _ _ _ _) (by omega) ⟨by omega, by omega, by simp only [World.size_alloc]; omega⟩ ⟨by omega, by omega, by simp only [World.size_alloc]; omega⟩ ⟨by omega, by omega, by simp only [World.size_alloc]; omega⟩ hd0 hd1 (by go_simp) (by go_simp) (by go_simp) (by go_simp) (by go_simp)).mono ?_
  rintro e w2 ⟨rfl, g1, g2, g3, g4⟩
  have Q0 := (Z0 w _ _ _ _ _).of_block (g3 w.heap.size (by simp only [World.size_alloc]; omega) (by omega) (by omega))
  have d0 := g2.cell (i := 0) (by omega)
  have c0 := g1.cell (i := 0) (by omega)
  have c1 := g1.cell (i := 1) (by omega)
  have c2 := g1.cell (i := 2) (by omega)
  have c3 := g1.cell (i := 3) (by omega)
  have c4 := g1.cell (i := 4) (by omega)
  have z0 := Q0.cell (i := 0) (by omega)
  have z1 := Q0.cell (i := 1) (by omega)
  have z2 := Q0.cell (i := 2) (by omega)
  have z3 := Q0.cell (i := 3) (by omega)
  have z4 := Q0.cell (i := 4) (by omega)
  have f0 := Q0.frozen 0
  have f1 := Q0.frozen 1
  have f2 := Q0.frozen 2
  have f3 := Q0.frozen 3
  have f4 := Q0.frozen 4
  simp only [fiv, one] at *
  have AB := Lib.hid ((((((((Below.refl w.heap.size w).alloc (Nat.le_refl _) _).alloc (by simp only [World.size_alloc]; omega) _).alloc (by simp only [World.size_alloc]; omega) _).alloc (by simp only [World.size_alloc]; omega) _).alloc (by simp only [World.size_alloc]; omega) _).alloc (by simp only [World.size_alloc]; omega) _).trans (g4 w.heap.size (by omega) (by omega)))
  have Q := Lib.hid Q0
  clear R0 C0 Z0 g1 g2 g3 g4 Q0
  go_wp2_with (fail)
  go_region
  all_goals go_wp2
  have S5 := five_row w2 w.heap.size 24 _ (.string a) (.string b) (.string c) (.int .i64 st) (.int .i64 (d.tdiv 1000000)) Q.out
  have r0 := S5.cell (i := 0) (by omega)
  have r1 := S5.cell (i := 1) (by omega)
  have r2 := S5.cell (i := 2) (by omega)
  have r3 := S5.cell (i := 3) (by omega)
  have r4 := S5.cell (i := 4) (by omega)
  simp only [fiv] at r0 r1 r2 r3 r4
  have B5 : Below w.heap.size w (((((w2.setCell ⟨w.heap.size, 0, none⟩ (.string a)).setCell ⟨w.heap.size, 1, none⟩ (.string b)).setCell ⟨w.heap.size, 2, none⟩ (.string c)).setCell ⟨w.heap.size, 3, none⟩ (.int .i64 st)).setCell ⟨w.heap.size, 4, none⟩ (.int .i64 (d.tdiv 1000000))) := (((((AB.out.setCell (Nat.le_refl _) _).setCell (Nat.le_refl _) _).setCell (Nat.le_refl _) _).setCell (Nat.le_refl _) _).setCell (Nat.le_refl _) _)
  exact bodyPost_ret (v := .tuple #[.agg #[.string a, .string b, .string c, .int .i64 st, .int .i64 (d.tdiv 1000000)], .int .i64 1]) (by simp [results, Try.results5, go_sem, r0, r1, r2, r3, r4]) rfl ⟨rfl, B5.drew⟩
end Go.Proofs.Ytokgfimcpgnjlaa.NotD
