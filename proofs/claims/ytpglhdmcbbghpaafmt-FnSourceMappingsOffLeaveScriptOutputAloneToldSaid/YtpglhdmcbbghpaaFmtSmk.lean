/- Two printers that stand apart: what a print into one leaves. No condition. -/
import Derived.Test.YtpglhdmcbbghpaaFmtJsp
namespace Go.Proofs.YtpglhdmcbbghpaaFmt.Smk
open Go.RowKit Go.Deep Go.Proofs.YtpglhdmcbbghpaaFmt.Base Go.Proofs.YtpglhdmcbbghpaaFmt.Sls Go.Proofs.YtpglhdmcbbghpaaFmt.Byw Go.Proofs.YtpglhdmcbbghpaaFmt.Prq Go.Proofs.YtpglhdmcbbghpaaFmt.Esq Go.Proofs.YtpglhdmcbbghpaaFmt.Unb Go.Proofs.YtpglhdmcbbghpaaFmt.Unq Go.Proofs.YtpglhdmcbbghpaaFmt.Pqt Go.Proofs.YtpglhdmcbbghpaaFmt.Utf Go.Proofs.YtpglhdmcbbghpaaFmt.Jsp
set_option linter.unusedVariables false
/-- The operations O, the data D, two printers and their rows, all apart. -/
structure Jw (w wr : World) (m : Bool) (O D : Value) (lo la : List UInt8) (p1 : Nat) (A1 : Option Addr) (n1 c1 : Nat) (L1 : List UInt8) (p2 : Nat) (A2 : Option Addr) (n2 c2 : Nat) (L2 : List UInt8) : Prop where
  prn1 : Prn wr p1 m (.slice A1 n1 c1)
  own1 : Own wr w.heap.size 5 (.slice A1 n1 c1) (bv L1)
  len1 : n1 = L1.length
  prn2 : Prn wr p2 m (.slice A2 n2 c2)
  own2 : Own wr w.heap.size 5 (.slice A2 n2 c2) (bv L2)
  len2 : n2 = L2.length
  ne : p1 ≠ p2
  dis : ∀ g, (Value.slice A1 n1 c1).ownBlock = some g → (Value.slice A2 n2 c2).ownBlock ≠ some g
  ops : Own wr w.heap.size 5 O (bv lo)
  dat : Own wr w.heap.size 5 D (bv la)
  o12 : ∀ g, O.ownBlock = some g → (Value.slice A1 n1 c1).ownBlock ≠ some g ∧ (Value.slice A2 n2 c2).ownBlock ≠ some g
  d12 : ∀ g, D.ownBlock = some g → (Value.slice A1 n1 c1).ownBlock ≠ some g ∧ (Value.slice A2 n2 c2).ownBlock ≠ some g
  bel : Below w.heap.size w wr
  ge1 : w.heap.size ≤ p1
  ge2 : w.heap.size ≤ p2
section
variable {w wr w1 : World} {m : Bool} {O D : Value} {lo la L1 L2 : List UInt8} {p1 p2 n1 n2 c1 c2 : Nat} {A1 A2 : Option Addr}
theorem Jw.swap (h : Jw w wr m O D lo la p1 A1 n1 c1 L1 p2 A2 n2 c2 L2) : Jw w wr m O D lo la p2 A2 n2 c2 L2 p1 A1 n1 c1 L1 :=
  ⟨h.prn2, h.own2, h.len2, h.prn1, h.own1, h.len1, h.ne.symm, fun g h1 h2 => h.dis g h2 h1, h.ops, h.dat, fun g hg => (h.o12 g hg).symm, fun g hg => (h.d12 g hg).symm, h.bel, h.ge2, h.ge1⟩
theorem Jw.below (h : Jw w wr m O D lo la p1 A1 n1 c1 L1 p2 A2 n2 c2 L2) (hb : Below wr.heap.size wr w1) : Jw w w1 m O D lo la p1 A1 n1 c1 L1 p2 A2 n2 c2 L2 :=
  ⟨h.prn1.of_block (hb.block _ h.prn1.lt), h.own1.keep hb, h.len1, h.prn2.of_block (hb.block _ h.prn2.lt), h.own2.keep hb, h.len2, h.ne, h.dis, h.ops.keep hb, h.dat.keep hb, h.o12, h.d12, below_join h.bel h.bel.size hb, h.ge1, h.ge2⟩
/-- A print into the first. -/
theorem Jw.one (h : Jw w wr m O D lo la p1 A1 n1 c1 L1 p2 A2 n2 c2 L2) {K : List UInt8} {A : Option Addr} {n c : Nat} (hq : Pq p1 m (Value.slice A1 n1 c1).ownBlock w.heap.size K wr w1 A n c) : Jw w w1 m O D lo la p1 A n c K p2 A2 n2 c2 L2 := by
  have far : ∀ {v : Value} {xs : List Value}, Own wr w.heap.size 5 v xs → (∀ g, v.ownBlock = some g → (Value.slice A1 n1 c1).ownBlock ≠ some g) → (∀ g, v.ownBlock = some g → (Value.slice A n c).ownBlock ≠ some g) := by
    intro v xs hv hd g hg hg2
    rcases hq.loc g hg2 with h1 | h1
    · exact hd g hg h1
    · have := (hv.lt g hg).2; omega
  have keep : ∀ {v : Value} {xs : List Value}, Own wr w.heap.size 5 v xs → (∀ g, v.ownBlock = some g → (Value.slice A1 n1 c1).ownBlock ≠ some g) → Own w1 w.heap.size 5 v xs := by
    intro v xs hv hd
    refine hq.two.own hv (fun g hg => ⟨hd g hg, fun e => ?_⟩)
    subst e
    exact own_ne h.prn1 hv hg
  have d2 : ∀ g, (Value.slice A2 n2 c2).ownBlock = some g → (Value.slice A1 n1 c1).ownBlock ≠ some g := fun g a b => h.dis g b a
  refine ⟨hq.prn, hq.own, hq.len, h.prn2.of_block (hq.two.block _ h.prn2.lt (fun e => own_ne h.prn2 h.own1 e.symm) h.ne.symm), keep h.own2 d2, h.len2, h.ne, fun g a b => far h.own2 d2 g b a, keep h.ops (fun g hg => (h.o12 g hg).1), keep h.dat (fun g hg => (h.d12 g hg).1), fun g hg => ⟨far h.ops (fun g hg => (h.o12 g hg).1) g hg, (h.o12 g hg).2⟩, fun g hg => ⟨far h.dat (fun g hg => (h.d12 g hg).1) g hg, (h.d12 g hg).2⟩, h.bel.trans (hq.two.below h.bel.size (fun g hg => (h.own1.lt g hg).1) h.ge1), h.ge1, h.ge2⟩
/-- A print into the second. -/
theorem Jw.two (h : Jw w wr m O D lo la p1 A1 n1 c1 L1 p2 A2 n2 c2 L2) {K : List UInt8} {A : Option Addr} {n c : Nat} (hq : Pq p2 m (Value.slice A2 n2 c2).ownBlock w.heap.size K wr w1 A n c) : Jw w w1 m O D lo la p1 A1 n1 c1 L1 p2 A n c K := (h.swap.one hq).swap
end
/-- Under way: operation k is next. -/
def Jl (w : World) (m : Bool) (O D : Value) (lo la : List UInt8) (p1 p2 n0 st nk : Nat) (i : Value) (wr : World) : Prop :=
  ∃ (k : Nat) (A1 A2 : Option Addr) (n c1 c2 : Nat) (L : List UInt8), i = .int .i64 k ∧ k ≤ nk ∧ L.length ≤ n0 + k * st ∧ Hid (Jw w wr m O D lo la p1 A1 n c1 L p2 A2 n c2 L)
theorem quoted_len (m fl : Bool) (U : List Nat) : (Pqt.quoted m fl U).length ≤ 6 * U.length + 2 := by
  unfold Pqt.quoted
  simp only [List.length_append, List.length_cons, List.length_nil]
  have : (rest U (qch m fl U) 0).length ≤ 6 * U.length := rest_len U _ _ 0
  omega
theorem mul_in (a b c : Nat) (ha : a ≤ 4096) (hb : b ≤ 1048576) (hc : c ≤ 1048576) : a * (b + 4 * c + 2) ≤ 4096 * 5242882 := Nat.mul_le_mul ha (by omega)
theorem mul_st (a b c k : Nat) (h : a * (b + 4 * c + 2) ≤ 16777216) (hk : k ≤ a) : k * (b + 12 * c + 2) ≤ 3 * 16777216 := by
  have h1 : k * (b + 12 * c + 2) ≤ k * (3 * (b + 4 * c + 2)) := Nat.mul_le_mul_left k (by omega)
  have h2 : k * (b + 4 * c + 2) ≤ a * (b + 4 * c + 2) := Nat.mul_le_mul_right _ hk
  have h3 : k * (3 * (b + 4 * c + 2)) = 3 * (k * (b + 4 * c + 2)) := by rw [Nat.mul_left_comm]
  omega
theorem own_nil {w : World} {base e n c : Nat} {A : Option Addr} {xs : List Value} (h : Own w base e (.slice A n c) xs) : A = none → n = 0 ∧ c = 0 := by
  rintro rfl
  rcases h.2 with ⟨h0, _⟩ | ⟨g, cap, cur, h0, _⟩
  · injection h0 with _ h1 h2; exact ⟨h1, h2⟩
  · injection h0 with h1; cases h1
def RT : Ending := .returned (.tuple #[])
section
variable {w wr : World} {m : Bool} {O : Value} {lo la L : List UInt8} {p1 p2 n1 n2 c1 c2 n0 nk k : Nat} {A1 A2 C : Option Addr} {na ca : Nat} {s : ByteArray}
/-- What an operation starts from. -/
structure At (w wr : World) (m : Bool) (O : Value) (C : Option Addr) (na ca : Nat) (lo la : List UInt8) (s : ByteArray) (p1 : Nat) (A1 : Option Addr) (n1 c1 : Nat) (p2 : Nat) (A2 : Option Addr) (n2 c2 : Nat) (L : List UInt8) (n0 nk k : Nat) : Prop where
  jw : Jw w wr m O (.slice C na ca) lo la p1 A1 n1 c1 L p2 A2 n2 c2 L
  lena : la.length = na
  sz : s.size ≤ 1048576
  lt : k < nk
  len : L.length ≤ n0 + k * (na + 12 * s.size + 2)
  all : n0 + (k + 1) * (na + 12 * s.size + 2) ≤ 1073740000
theorem At.next (h : At w wr m O C na ca lo la s p1 A1 n1 c1 p2 A2 n2 c2 L n0 nk k) {w1 : World} {B1 B2 : Option Addr} {i1 d1 i2 d2 : Nat} (K : List UInt8) (hK : K.length ≤ na + 12 * s.size + 2) (j : Jw w w1 m O (.slice C na ca) lo la p1 B1 i1 d1 (L ++ K) p2 B2 i2 d2 (L ++ K)) : Jl w m O (.slice C na ca) lo la p1 p2 n0 (na + 12 * s.size + 2) nk (.int .i64 ((k : Int) + 1)) w1 := by
  have e : i2 = i1 := by rw [j.len1, j.len2]
  subst e
  refine ⟨k + 1, B1, B2, i2, d1, d2, L ++ K, by go_num, h.lt, ?_, Lib.hid j⟩
  rw [List.length_append, Nat.add_mul, Nat.one_mul]
  have := h.len
  omega
theorem At.same (h : At w wr m O C na ca lo la s p1 A1 n1 c1 p2 A2 n2 c2 L n0 nk k) {w1 : World} (hb : Below wr.heap.size wr w1) : Jl w m O (.slice C na ca) lo la p1 p2 n0 (na + 12 * s.size + 2) nk (.int .i64 ((k : Int) + 1)) w1 :=
  h.next [] (by simp) (by rw [List.append_nil]; exact h.jw.below hb)
theorem At.map8 (h : At w wr m O C na ca lo la s p1 A1 n1 c1 p2 A2 n2 c2 L n0 nk k) (x : Int) : Calls Tryf.prog 8 #[.pointer (some ⟨p1, 0, none⟩), .int .i32 x] wr fun e w1 => e = .returned (.tuple #[]) ∧ Jl w m O (.slice C na ca) lo la p1 p2 n0 (na + 12 * s.size + 2) nk (.int .i64 ((k : Int) + 1)) w1 := by
  refine (asm8 p1 m _ x wr h.jw.prn1).mono ?_
  rintro e w1 ⟨rfl, hb⟩
  exact ⟨rfl, h.same hb⟩
theorem At.map9 (h : At w wr m O C na ca lo la s p1 A1 n1 c1 p2 A2 n2 c2 L n0 nk k) (x y z : Int) (u : ByteArray) : Calls Tryf.prog 9 #[.pointer (some ⟨p1, 0, none⟩), .int .i32 x, .string u, .int .u32 y, .int .u32 z] wr fun e w1 => e = .returned (.tuple #[]) ∧ Jl w m O (.slice C na ca) lo la p1 p2 n0 (na + 12 * s.size + 2) nk (.int .i64 ((k : Int) + 1)) w1 := by
  refine (asm9 p1 m _ x y z u wr h.jw.prn1).mono ?_
  rintro e w1 ⟨rfl, hb⟩
  exact ⟨rfl, h.same hb⟩
theorem At.bytes (h : At w wr m O C na ca lo la s p1 A1 n1 c1 p2 A2 n2 c2 L n0 nk k) : Calls Tryf.prog 10 #[.pointer (some ⟨p1, 0, none⟩), .slice C na ca] wr fun e w1 => e = .returned (.tuple #[]) ∧ Calls Tryf.prog 10 #[.pointer (some ⟨p2, 0, none⟩), .slice C na ca] w1 fun e w2 => e = .returned (.tuple #[]) ∧ Jl w m O (.slice C na ca) lo la p1 p2 n0 (na + 12 * s.size + 2) nk (.int .i64 ((k : Int) + 1)) w2 := by
  have hl := h.len
  have ha := h.all
  rw [Nat.add_mul, Nat.one_mul] at ha
  have hna := h.lena
  refine (print10 p1 w.heap.size n1 c1 wr.heap.size na ca m A1 C L la wr (by omega) h.jw.len1 h.lena h.jw.prn1 h.jw.own1 h.jw.bel.size h.jw.dat.rd).mono ?_
  rintro e w1 ⟨rfl, B1, i1, d1, q1⟩
  have j1 := h.jw.one q1
  refine ⟨rfl, (print10 p2 w.heap.size n2 c2 w1.heap.size na ca m A2 C L la w1 (by omega) j1.len2 h.lena j1.prn2 j1.own2 j1.bel.size j1.dat.rd).mono ?_⟩
  rintro e w2 ⟨rfl, B2, i2, d2, q2⟩
  exact ⟨rfl, h.next la (by omega) (j1.two q2)⟩
theorem At.text (h : At w wr m O C na ca lo la s p1 A1 n1 c1 p2 A2 n2 c2 L n0 nk k) (F : Int) : Calls Tryf.prog 11 #[.pointer (some ⟨p1, 0, none⟩), .string s, .int .u8 F] wr fun e w1 => e = .returned (.tuple #[]) ∧ Calls Tryf.prog 11 #[.pointer (some ⟨p2, 0, none⟩), .string s, .int .u8 F] w1 fun e w2 => e = .returned (.tuple #[]) ∧ Jl w m O (.slice C na ca) lo la p1 p2 n0 (na + 12 * s.size + 2) nk (.int .i64 ((k : Int) + 1)) w2 := by
  have hl := h.len
  have ha := h.all
  rw [Nat.add_mul, Nat.one_mul] at ha
  have hsz := h.sz
  have hz : L.length + 12 * s.size + 16 ≤ 1073741000 := by omega
  have hql := quoted_len m (bits .and .u8 F 1 != 0) (units s)
  have hul := units_len s
  refine (quot11 p1 w.heap.size n1 c1 m A1 L s F wr h.jw.prn1 h.jw.own1 h.jw.len1 h.jw.bel.size h.sz hz).mono ?_
  rintro e w1 ⟨rfl, B1, i1, d1, q1⟩
  have j1 := h.jw.one q1
  refine ⟨rfl, (quot11 p2 w.heap.size n2 c2 m A2 L s F w1 j1.prn2 j1.own2 j1.len2 j1.bel.size h.sz hz).mono ?_⟩
  rintro e w2 ⟨rfl, B2, i2, d2, q2⟩
  exact ⟨rfl, h.next _ (by omega) (j1.two q2)⟩
end
/-- Where the loop begins. -/
theorem start_jw {w w1 w2 w3 w4 w5 w6 w7 : World} {m : Bool} {A1 A2 A3 A4 : Option Addr} {c1 c2 c3 c4 n0 n1 n2 st nk : Nat} {l0 l1 l2 : List UInt8} (L0 : l0.length = n0) (b1 : Below w.heap.size w w1) (o1 : Own w2 w1.heap.size 5 (.slice A1 n1 c1) (bv l1)) (b2 : Below w1.heap.size w1 w2)
    (o2 : Own w3 w2.heap.size 5 (.slice A2 n2 c2) (bv l2)) (b3 : Below w2.heap.size w2 w3) (o3 : Own w4 w3.heap.size 5 (.slice A3 n0 c3) (bv l0)) (b4 : Below w3.heap.size w3 w4) (q1 : Prn w5 w4.heap.size m (.slice A3 n0 c3)) (b5 : Below w4.heap.size w4 w5)
    (o4 : Own w6 w5.heap.size 5 (.slice A4 n0 c4) (bv l0)) (b6 : Below w5.heap.size w5 w6) (q2 : Prn w7 w6.heap.size m (.slice A4 n0 c4)) (b7 : Below w6.heap.size w6 w7) :
    Jl w m (.slice A1 n1 c1) (.slice A2 n2 c2) l1 l2 w4.heap.size w6.heap.size n0 st nk (.int .i64 0) w7 := by
  have z1 := b1.size; have z2 := b2.size; have z3 := b3.size; have z4 := b4.size; have z5 := b5.size; have z6 := b6.size; have z7 := b7.size
  have p5 := q1.lt
  have r1 := o1.lt; have r2 := o2.lt; have r3 := o3.lt; have r4 := o4.lt
  refine ⟨0, A3, A4, n0, c3, c4, l0, rfl, Nat.zero_le _, by omega, Lib.hid ⟨?_, ?_, L0.symm, q2, ?_, L0.symm, by omega, ?_, ?_, ?_, ?_, ?_, ?_, by omega, by omega⟩⟩
  · exact (q1.of_block (b6.block _ p5)).of_block (b7.block _ (by omega))
  · exact Byw.Own.base (((o3.keep b5).keep b6).keep b7) (by omega)
  · exact Byw.Own.base (o4.keep b7) (by omega)
  · intro g h1 h2; have := r3 g h1; have := r4 g h2; omega
  · exact Byw.Own.base ((((((o1.keep b3).keep b4).keep b5).keep b6).keep b7)) (by omega)
  · exact Byw.Own.base (((((o2.keep b4).keep b5).keep b6).keep b7)) (by omega)
  · intro g hg; have := r1 g hg; exact ⟨fun h => by have := r3 g h; omega, fun h => by have := r4 g h; omega⟩
  · intro g hg; have := r2 g hg; exact ⟨fun h => by have := r3 g h; omega, fun h => by have := r4 g h; omega⟩
  · exact below_join (below_join (below_join (below_join (below_join (below_join b1 z1 b2) (by omega) b3) (by omega) b4) (by omega) b5) (by omega) b6) (by omega) b7
theorem and3 (b : Nat) (hb : b < 256) : bits .and .u8 (b : Int) 3 = 0 ∨ bits .and .u8 (b : Int) 3 = 1 ∨ bits .and .u8 (b : Int) 3 = 2 ∨ bits .and .u8 (b : Int) 3 = 3 := by
  have h := u8_and_nat b 3 hb (by omega)
  rw [nat_mask2] at h
  have h2 : bits .and .u8 (b : Int) 3 = ((b % 4 : Nat) : Int) := h
  rw [h2]
  omega
end Go.Proofs.YtpglhdmcbbghpaaFmt.Smk
