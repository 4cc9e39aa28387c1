/- The entries held against the query in turn. Conditions: at most 65537 entries. -/
import Derived.Test.YtoonlcdifpffnaaIeB
namespace Go.Proofs.Ytoonlcdifpffnaa.IeC
open Go.RowKit Go.Deep Go.Proofs.Ytoonlcdifpffnaa.Base Go.Proofs.Ytoonlcdifpffnaa.Sls Go.Proofs.Ytoonlcdifpffnaa.IeA Go.Proofs.Ytoonlcdifpffnaa.IeB
set_option linter.unusedVariables false
attribute [local go_sem ↓] Go.wp_at_zero Go.wp_at_succ
def star : ByteArray := { data := #[42] }
def rq4 : Nat → Value
  | 3 => .int .u8 0
  | _ => .pointer none
def obj7 (v x : Value) : Nat → Value
  | 0 => .string { data := #[] }
  | 1 => .slice none 0 0
  | 2 => v
  | 3 => x
  | 4 => .int .i32 0
  | 5 => .int .i32 0
  | _ => .int .u8 3
theorem rowq (w : World) : (w.alloc (.cells #[.pointer none, .pointer none, .pointer none, .int .u8 0] 53)).rowIs w.heap.size 53 4 rq4 :=
  World.rowIs_alloc w #[.pointer none, .pointer none, .pointer none, .int .u8 0] 53 _ (fun i hi => by
    match i, hi with
    | 0, _ => rfl
    | 1, _ => rfl
    | 2, _ => rfl
    | 3, _ => rfl)
theorem rowo (v x : Value) (w : World) : (w.alloc (.cells #[.string { data := #[] }, .slice none 0 0, v, x, .int .i32 0, .int .i32 0, .int .u8 3] 34)).rowIs w.heap.size 34 7 (obj7 v x) :=
  World.rowIs_alloc w #[.string { data := #[] }, .slice none 0 0, v, x, .int .i32 0, .int .i32 0, .int .u8 3] 34 _ (fun i hi => by
    match i, hi with
    | 0, _ => rfl
    | 1, _ => rfl
    | 2, _ => rfl
    | 3, _ => rfl
    | 4, _ => rfl
    | 5, _ => rfl
    | 6, _ => rfl)
def Fst (q : ByteArray) (vs : Nat → ByteArray) (n j : Nat) : Prop := j ≤ n ∧ (∀ i, i < j → q ≠ vs i) ∧ (j < n → q = vs j)
theorem Fst.same {q : ByteArray} {vs : Nat → ByteArray} {n j j' : Nat} (h : Fst q vs n j) (h' : Fst q vs n j') : j = j' := by
  obtain ⟨h1, h2, h3⟩ := h
  obtain ⟨g1, g2, g3⟩ := h'
  rcases Nat.lt_trichotomy j j' with e | e | e
  · exact absurd (h3 (by omega)) (g2 j e)
  · exact e
  · exact absurd (g3 (by omega)) (h2 j' e)
/-- The answer: the first entry that holds the query, if the query does not end in a star. -/
def Pst (q : ByteArray) (ks vs : Nat → ByteArray) (lf : Nat → Int) (n : Nat) (w : World) (e : Ending) (w' : World) : Prop :=
  ∃ j, Fst q vs n j ∧ e = .returned (ans (!(Lib.hasSuffix q.data.toList star.data.toList) && decide (j < n)) (ks j) ((j : Nat) + 1) (lf j)) ∧ Below w.heap.size w w'
theorem fst_any (q : ByteArray) (vs : Nat → ByteArray) (n : Nat) : ∃ j, Fst q vs n j := by
  induction n with
  | zero => exact ⟨0, Nat.le_refl _, fun i h => absurd h (Nat.not_lt_zero _), fun h => absurd h (Nat.not_lt_zero _)⟩
  | succ n ih =>
    obtain ⟨j, h1, h2, h3⟩ := ih
    rcases Nat.lt_or_ge j n with h | h
    · exact ⟨j, by omega, h2, fun _ => h3 h⟩
    · obtain rfl : j = n := by omega
      by_cases e : q = vs j
      · exact ⟨j, by omega, h2, fun _ => e⟩
      · exact ⟨j + 1, by omega, fun i hi => by
          rcases Nat.lt_or_ge i j with g | g
          · exact h2 i g
          · obtain rfl : i = j := by omega
            exact e, fun h => absurd h (by omega)⟩
theorem bset2 {B x : Nat} {w0 w : World} (h : Below B w0 w) (hx : B ≤ x) (v0 v1 : Value) : Below B w0 ((w.setCell ⟨x, 0, none⟩ v0).setCell ⟨x, 1, none⟩ v1) := (h.setCell hx _).setCell hx _
set_option maxRecDepth 20000 in
set_option maxHeartbeats 1000000 in
theorem reverse17 (q : ByteArray) (B n cap : Nat) (ks vs : Nat → ByteArray) (lf : Nat → Int) (w : World) (hn : n ≤ 65537) (hq : q.size ≤ 9223372036854775807) (hr : w.rowIs B 43 (n * 10) (entt ks vs lf n)) :
    Calls Try.prog 17 #[.agg #[.pointer none, .pointer none, .pointer none, .int .u8 0], .string q, .agg #[.string { data := #[] }, .slice none 0 0, .slice (some ⟨B, 0, none⟩) n cap, .slice none 0 0, .int .i32 0, .int .i32 0, .int .u8 3], .map none] w (Pst q ks vs lf n w) := by
  have HS := Lib.hid (fun w => Try.strings_HasSuffix q star w hq)
  have hBz := hr.lt
  have R0 : Hid (∀ (x : World) (o : Obj) , (((x.alloc (.cells #[.pointer none, .pointer none, .pointer none, .int .u8 0] 53)).alloc (.cells #[.string { data := #[] }, .slice none 0 0, .slice (some ⟨B, 0, none⟩) n cap, .slice none 0 0, .int .i32 0, .int .i32 0, .int .u8 3] 34)).alloc o).rowIs x.heap.size 53 4 rq4) := Lib.hid fun x o => ((rowq x).alloc _).alloc _
  have R1 : Hid (∀ (x : World) (o0 o : Obj) , (((x.alloc o0).alloc (.cells #[.string { data := #[] }, .slice none 0 0, .slice (some ⟨B, 0, none⟩) n cap, .slice none 0 0, .int .i32 0, .int .i32 0, .int .u8 3] 34)).alloc o).rowIs (x.heap.size + 1) 34 7 (obj7 (.slice (some ⟨B, 0, none⟩) n cap) (.slice none 0 0))) := Lib.hid fun x o0 o => by
    have := rowo (.slice (some ⟨B, 0, none⟩) n cap) (.slice none 0 0) (x.alloc o0)
    rw [World.size_alloc] at this
    exact this.alloc _
  have R2 : Hid (∀ (x : World) (o0 o : Obj) , (((x.alloc o0).alloc o).alloc (.cells #[.int .i32 0, .int .i32 0] 31)).rowIs (x.heap.size + 1 + 1) 31 2 (two 0 0)) := Lib.hid fun x o0 o => by
    have := row2 ((x.alloc o0).alloc o)
    rw [World.size_alloc, World.size_alloc] at this
    exact this
  have HB := Lib.hid hr
  clear hr
  obtain ⟨b, hb⟩ : ∃ b, b = Lib.hasSuffix q.data.toList star.data.toList := ⟨_, rfl⟩
  unfold Pst
  rw [← hb] at HS ⊢
  clear hb
  cases b
  · go_enter Try.func17, Try.ntmps17
    go_wp2_with (first | (go_at_call 18; refine (HS.out _).mono ?_; rintro e w7 ⟨rfl, rfl⟩) | fail)
    go_loopw [30] (fun i wr => ∃ k : Nat, k ≤ n ∧ i = .int .i64 k ∧ Hid (∀ i, i < k → q ≠ vs i) ∧ wr.rowIs B 43 (n * 10) (entt ks vs lf n) ∧ wr.rowIs w.heap.size 53 4 rq4 ∧ wr.rowIs (w.heap.size + 1) 34 7 (obj7 (.slice (some ⟨B, 0, none⟩) n cap) (.slice none 0 0)) ∧ wr.rowIs (w.heap.size + 1 + 1) 31 2 (two 0 0) ∧ Below w.heap.size w wr) (fun i _ => n - (intOf i).toNat)
    case atStart => exact ⟨0, by omega, rfl, Lib.hid (fun i h => absurd h (Nat.not_lt_zero _)), ((HB.out.alloc _).alloc _).alloc _, R0.out _ _, R1.out _ _ _, R2.out _ _ _, (((Below.refl _ _).alloc (Nat.le_refl _) _).alloc (by simp only [World.size_alloc]; omega) _).alloc (by simp only [World.size_alloc]; omega) _⟩
    case round =>
      obtain ⟨k, hk, rfl, HF, HR, HR0, HR1, HR2, hbel⟩ := hrel
      by_cases hlt : k < n
      · have hsz : w.heap.size + 1 + 1 < wr.heap.size := HR2.lt
        have hBw : B < wr.heap.size := HR.lt
        have hsz0 : w.heap.size < wr.heap.size := by omega
        have hsz1 : w.heap.size + 1 < wr.heap.size := by omega
        have c0 := HR.cell (i := k * 10) (by omega)
        have c1 := HR.cell (i := k * 10 + 1) (by omega)
        have c2 := HR.cell (i := k * 10 + 2) (by omega)
        have c3 := HR.cell (i := k * 10 + 3) (by omega)
        have c4 := HR.cell (i := k * 10 + 4) (by omega)
        have c5 := HR.cell (i := k * 10 + 5) (by omega)
        have c6 := HR.cell (i := k * 10 + 6) (by omega)
        have c7 := HR.cell (i := k * 10 + 7) (by omega)
        have c8 := HR.cell (i := k * 10 + 8) (by omega)
        have c9 := HR.cell (i := k * 10 + 9) (by omega)
        have e0 := entt_at ks vs lf n k 0 hlt (by omega)
        have e1 := entt_at ks vs lf n k 1 hlt (by omega)
        have e2 := entt_at ks vs lf n k 2 hlt (by omega)
        have e3 := entt_at ks vs lf n k 3 hlt (by omega)
        have e4 := entt_at ks vs lf n k 4 hlt (by omega)
        have e5 := entt_at ks vs lf n k 5 hlt (by omega)
        have e6 := entt_at ks vs lf n k 6 hlt (by omega)
        have e7 := entt_at ks vs lf n k 7 hlt (by omega)
        have e8 := entt_at ks vs lf n k 8 hlt (by omega)
        have e9 := entt_at ks vs lf n k 9 hlt (by omega)
        simp only [fldt] at e0 e1 e2 e3 e4 e5 e6 e7 e8 e9
        rw [Nat.add_zero] at e0
        rw [e0] at c0
        rw [e1] at c1
        rw [e2] at c2
        rw [e3] at c3
        rw [e4] at c4
        rw [e5] at c5
        rw [e6] at c6
        rw [e7] at c7
        rw [e8] at c8
        rw [e9] at c9
        clear e0 e1 e2 e3 e4 e5 e6 e7 e8 e9
        have r0 := HR0.cell (i := 0) (by omega)
        have r1 := HR0.cell (i := 1) (by omega)
        have r2 := HR0.cell (i := 2) (by omega)
        have r3 := HR0.cell (i := 3) (by omega)
        have d0 := HR2.cell (i := 0) (by omega)
        have d1 := HR2.cell (i := 1) (by omega)
        have g0 := HR2.frozen 0
        have g1 := HR2.frozen 1
        simp only [two, rq4] at d0 d1 r0 r1 r2 r3
        have Q := Lib.hid HR; have Q0 := Lib.hid HR0; have Q1 := Lib.hid HR1; have Q2 := Lib.hid HR2; have Q3 := Lib.hid hbel
        have x1 : (0 : Int) ≤ (k : Int) := by omega
        have x2 : (k : Int) < (n : Int) := by omega
        clear HR HR0 HR1 HR2 hbel
        by_cases hqv : q = vs k
        · have HQ := Lib.hid hqv
          clear hqv
          go_wp2_with (fail)
          clear c0 c1 c2 c3 c4 c5 c6 c7 c8 c9 r0 r1 r2 r3 d0 d1 g0 g1
          refine (rev19t _ _ _ _ _ _ _ HQ.out).mono ?_
          rintro e w3 ⟨rfl, hb3⟩
          have B3 := (Q3.out.alloc Q3.out.size _).trans (hb3.mono (by simp only [World.size_alloc]; omega))
          have P2 := row_below (Q2.out.alloc _) hb3 (by simp only [World.size_alloc]; omega)
          have l3 := hb3.size
          simp only [World.size_alloc] at l3
          have d0 := P2.cell (i := 0) (by omega)
          have d1 := P2.cell (i := 1) (by omega)
          have g0 := P2.frozen 0
          have g1 := P2.frozen 1
          simp only [two] at d0 d1
          have l4 : w.heap.size + 1 + 1 < w3.heap.size := by omega
          have HB3 := Lib.hid B3; have HP2 := Lib.hid P2
          clear B3 P2 hb3
          go_wp2
          go_region
          all_goals go_wp2
          all_goals
            have S2 := ((HP2.out.set 0 (.int .i32 ((k : Nat) + 1))).set 1 (.int .i32 (lf k))).alloc (.cells #[.int .i32 ((k : Nat) + 1), .int .i32 (lf k)] 31)
            have s0 := S2.cell (i := 0) (by omega)
            have s1 := S2.cell (i := 1) (by omega)
            simp at s0 s1
            have B7 := ((bset2 HB3.out (Nat.le_of_lt (Nat.lt_succ_of_lt (Nat.lt_succ_self w.heap.size))) (.int .i32 ((k : Nat) + 1)) (.int .i32 (lf k))).alloc (by simp only [World.size_setCell]; omega) (.cells #[.int .i32 ((k : Nat) + 1), .int .i32 (lf k)] 31)).drew
            refine bodyPost_ret (v := .tuple #[.bool true, .string (ks k), .agg #[.int .i32 ((k : Nat) + 1), .int .i32 (lf k)]]) (by simp [results, Try.results17, go_sem, s0, s1]) rfl ⟨k, ⟨hk, HF.out, fun _ => HQ.out⟩, ?_, B7⟩
            rw [decide_eq_true hlt]; rfl
        · go_wp2_with (fail)
          clear c0 c1 c2 c3 c4 c5 c6 c7 c8 c9 r0 r1 r2 r3 d0 d1 g0 g1
          refine (rev19f _ _ _ _ _ _ _ hqv).mono ?_
          rintro e w3 ⟨rfl, hb3⟩
          have B3 := (Q3.out.alloc Q3.out.size _).trans (hb3.mono (by simp only [World.size_alloc]; omega))
          have P2 := row_below (Q2.out.alloc _) hb3 (by simp only [World.size_alloc]; omega)
          have P1 := row_below (Q1.out.alloc _) hb3 (by simp only [World.size_alloc]; omega)
          have P0 := row_below (Q0.out.alloc _) hb3 (by simp only [World.size_alloc]; omega)
          have P := row_below (Q.out.alloc _) hb3 (by simp only [World.size_alloc]; omega)
          have HB3 := Lib.hid B3; have HP2 := Lib.hid P2; have HP1 := Lib.hid P1; have HP0 := Lib.hid P0; have HP := Lib.hid P
          clear B3 P2 P1 P0 P hb3
          go_wp2
          go_roundw
          case rel => exact ⟨k + 1, by omega, by go_num, Lib.hid (fun i h => by
            rcases Nat.lt_or_ge i k with g | g
            · exact HF.out i g
            · obtain rfl : i = k := by omega
              exact hqv), HP.out.alloc _, HP0.out.alloc _, HP1.out.alloc _, HP2.out.alloc _, HB3.out.alloc HB3.out.size _⟩
          case measure => simp [intOf]; omega
      · obtain rfl : k = n := by omega
        have o3 := HR1.cell (i := 3) (by omega)
        simp only [obj7] at o3
        have Q2 := Lib.hid HR2; have Q3 := Lib.hid hbel
        clear HR HR0 HR1 HR2 hbel
        go_wp2
        go_loopw [53] (fun i wr2 => i = .int .i64 0 ∧ wr2.rowIs (w.heap.size + 1 + 1) 31 2 (two 0 0) ∧ Below w.heap.size w wr2) (fun i _ => 0)
        case atStart => exact ⟨rfl, Q2.out, Q3.out⟩
        case round =>
          obtain ⟨rfl, HR2, hbel⟩ := hrel
          have d0 := HR2.cell (i := 0) (by omega)
          have d1 := HR2.cell (i := 1) (by omega)
          have g0 := HR2.frozen 0
          have g1 := HR2.frozen 1
          have Q2 := Lib.hid HR2
          have Q3 := Lib.hid hbel
          clear HR2 hbel
          simp only [two] at d0 d1
          go_wp2
          have S2 := (Q2.out.set 0 (.int .i32 0)).set 1 (.int .i32 0)
          have s0 := S2.cell (i := 0) (by omega)
          have s1 := S2.cell (i := 1) (by omega)
          simp at s0 s1
          have B7 := bset2 Q3.out (Nat.le_of_lt (Nat.lt_succ_of_lt (Nat.lt_succ_self w.heap.size))) (.int .i32 0) (.int .i32 0)
          refine bodyPost_ret (v := .tuple #[.bool false, .string { data := #[] }, .agg #[.int .i32 0, .int .i32 0]]) (by simp [results, Try.results17, go_sem, s0, s1]) rfl ⟨k, ⟨Nat.le_refl _, HF.out, fun h => absurd h (Nat.lt_irrefl _)⟩, ?_, B7⟩
          rw [decide_eq_false (Nat.lt_irrefl _)]; rfl
  · go_enter Try.func17, Try.ntmps17
    go_wp2_with (first | (go_at_call 18; refine (HS.out _).mono ?_; rintro e w7 ⟨rfl, rfl⟩) | fail)
    go_loopw [53] (fun i wr => i = .int .i64 0 ∧ wr.rowIs (w.heap.size + 1 + 1) 31 2 (two 0 0) ∧ Below w.heap.size w wr) (fun i _ => 0)
    case atStart => exact ⟨rfl, R2.out _ _ _, (((Below.refl _ _).alloc (Nat.le_refl _) _).alloc (by simp only [World.size_alloc]; omega) _).alloc (by simp only [World.size_alloc]; omega) _⟩
    case round =>
      obtain ⟨rfl, HR2, hbel⟩ := hrel
      have d0 := HR2.cell (i := 0) (by omega)
      have d1 := HR2.cell (i := 1) (by omega)
      have g0 := HR2.frozen 0
      have g1 := HR2.frozen 1
      have Q2 := Lib.hid HR2
      have Q3 := Lib.hid hbel
      clear HR2 hbel
      simp only [two] at d0 d1
      go_wp2
      have S2 := (Q2.out.set 0 (.int .i32 0)).set 1 (.int .i32 0)
      have s0 := S2.cell (i := 0) (by omega)
      have s1 := S2.cell (i := 1) (by omega)
      simp at s0 s1
      have B7 := bset2 Q3.out (Nat.le_of_lt (Nat.lt_succ_of_lt (Nat.lt_succ_self w.heap.size))) (.int .i32 0) (.int .i32 0)
      refine bodyPost_ret (v := .tuple #[.bool false, .string { data := #[] }, .agg #[.int .i32 0, .int .i32 0]]) (by simp [results, Try.results17, go_sem, s0, s1]) rfl ⟨_, (fst_any q vs n).choose_spec, rfl, B7⟩
end Go.Proofs.Ytoonlcdifpffnaa.IeC
