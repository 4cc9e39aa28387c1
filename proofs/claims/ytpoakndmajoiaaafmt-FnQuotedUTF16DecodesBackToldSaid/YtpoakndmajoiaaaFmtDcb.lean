/- zzDecodeJSStringBody by its contract: it reads a body of pieces and gives back their units. Condition: the length. -/
import Derived.Test.YtpoakndmajoiaaaFmtDcu
import Derived.Test.YtpoakndmajoiaaaFmtDcs
import Derived.Deep.DeepCutAuto
namespace Go.Proofs.YtpoakndmajoiaaaFmt.Dcb
open Go.RowKit Go.Deep Go.Proofs.YtpoakndmajoiaaaFmt.Base Go.Proofs.YtpoakndmajoiaaaFmt.Sls Go.Proofs.YtpoakndmajoiaaaFmt.Byw Go.Proofs.YtpoakndmajoiaaaFmt.Esq Go.Proofs.YtpoakndmajoiaaaFmt.Unb Go.Proofs.YtpoakndmajoiaaaFmt.Dcu Go.Proofs.YtpoakndmajoiaaaFmt.Dcs
set_option linter.unusedVariables false
theorem infoU : (Tryf.prog.info? 29).map (fun i => (i.zero, i.size, i.bytes)) = some (some (.int .u16 0), 1, 2) := by kernel_rfl
theorem uv_app (a b : List Nat) : uv (a ++ b) = uv a ++ uv b := by simp [uv]
theorem one_u16 (l : List Int) : ∀ u ∈ l.map (Value.int .u16), u.oneCell' = true := by
  intro u hu; simp only [List.mem_map] at hu; obtain ⟨c, _, rfl⟩ := hu; rfl
theorem rd_cells16 (w : World) (xs : List Value) : Rd (w.alloc (.cells xs.toArray 29)) (w.heap.size + 1) (some ⟨w.heap.size, 0, none⟩) xs := rd_cells w 29 xs
theorem add_pos (x : Addr) (k : Nat) (h : 0 < k) : x.add k = ⟨x.block, x.off + k, none⟩ := by
  unfold Addr.add
  rw [if_neg (by omega)]
theorem drop_len {l : List UInt8} (k m : Nat) (t : List UInt8) (h : l.drop k = t) (hm : m ≤ t.length) (h0 : 0 < m) : k + m ≤ l.length := by
  subst h
  rw [List.length_drop] at hm
  omega
theorem drop_at {l : List UInt8} (k m : Nat) (t : List UInt8) (h : l.drop k = t) : l.drop (k + m) = t.drop m := by
  subst h
  rw [List.drop_drop]
theorem drop_more {l : List UInt8} (k m : Nat) (t : List UInt8) (h : l.drop k = t) (hm : k + m < l.length) : ∃ d t', t.drop m = d :: t' := by
  subst h
  rw [List.drop_drop]
  exact ⟨_, _, List.drop_eq_getElem_cons hm⟩
/-- The units so far. -/
structure On (w wr : World) (A : Option Addr) (n c : Nat) (o : List Nat) : Prop where
  own : Own wr w.heap.size 29 (.slice A n c) (uv o)
  bel : Below w.heap.size w wr
theorem On.app {w wr w1 : World} {A : Option Addr} {n c : Nat} {o K : List Nat} {ks : List Value} {v1 : Value} {ob : Obj} (h : On w wr A n c o) (hg : (wr.alloc ob).grownBy w1 (Value.slice A n c).ownBlock) (o1 : Own w1 w.heap.size 29 v1 (uv o ++ ks)) (hK : ks = uv K) :
    ∃ A' n' c', v1 = .slice A' n' c' ∧ On w w1 A' n' c' (o ++ K) := by
  subst hK
  rw [← uv_app] at o1
  obtain ⟨A', c', rfl⟩ := o1.form
  have hg' := grown_alloc' hg
  have hb := h.bel
  refine ⟨A', _, c', rfl, o1, hg'.os.trans hb.os, hg'.tape.trans hb.tape, hg'.output.trans hb.output, Nat.le_trans hb.size hg'.size, fun i hi => (hg'.block i (Nat.lt_of_lt_of_le hi hb.size) (fun e => ?_)).trans (hb.block i hi)⟩
  have := (h.own.lt i e.symm).1
  omega
theorem On.drewN {w wr : World} {A : Option Addr} {n c : Nat} {o : List Nat} (h : On w wr A n c o) (k : Nat) : On w (wr.drewN k) A n c o := ⟨h.own, h.bel.trans ⟨rfl, rfl, rfl, Nat.le_refl _, fun _ _ => rfl⟩⟩
theorem see {w wr : World} {l : List UInt8} {k : Nat} {t : List UInt8} (x : Addr) (hR : Rd w w.heap.size (some x) (bv l)) (hb : Below w.heap.size w wr) (hd : l.drop k = t) (j : Nat) (c : UInt8) (hc : t[j]? = some c) : wr.cell? (x.add (k + j)) = some (.int .u8 (c.toNat : Int)) := by
  subst hd
  rw [List.getElem?_drop] at hc
  obtain ⟨x', hx, _, h⟩ := (hR.below hb).at_ (k := k + j) (u := .int .u8 (c.toNat : Int)) (by rw [bv_get, hc]; rfl)
  injection hx with hx
  subst hx
  exact h
structure Rl (w : World) (l : List UInt8) (U : List Nat) (q k : Nat) (A : Option Addr) (n c : Nat) (o : List Nat) (wr : World) : Prop where
  on : On w wr A n c o
  le : k ≤ l.length
  bod : ∃ u, Bod q (l.drop k) u ∧ o ++ u = U
/-- The frame at a round's head: what is not named here is whatever it is. -/
def Inv (w : World) (B : Option Addr) (c1 : Nat) (l : List UInt8) (U : List Nat) (q : Nat) (a' : Act) (wr : World) : Prop :=
  ∃ (k : Nat) (A : Option Addr) (n c : Nat) (o : List Nat) (u : Nat → Value), Rl w l U q k A n c o wr ∧ a' = { tmps := #[.slice B l.length c1, .int .u8 (q : Int), u 2, u 3, .slice none 0 0, .bool false, .slice A n c, .int .i64 (l.length : Nat), .int .i64 (k : Nat), u 9, u 10, u 11, u 12, u 13, u 14, u 15, u 16, u 17, u 18, u 19, u 20, u 21, u 22, u 23, u 24, u 25, u 26, u 27, u 28, u 29, u 30, u 31, u 32, u 33, u 34, u 35, u 36, u 37, u 38, u 39, u 40, u 41, u 42, u 43, u 44, u 45, u 46, u 47, u 48, u 49, u 50, u 51, u 52, u 53, u 54, u 55, u 56, u 57, u 58, u 59, u 60, u 61, u 62, u 63, u 64, u 65, u 66, u 67, u 68, u 69, u 70, u 71, u 72, u 73, u 74, u 75, u 76, u 77, u 78, u 79, u 80, u 81, u 82, u 83, u 84, u 85, u 86, u 87, u 88, u 89, u 90, u 91, u 92, u 93, u 94, u 95, u 96, u 97, u 98, u 99, u 100, u 101, u 102, u 103, u 104, u 105, u 106, u 107, u 108, u 109, u 110, u 111, u 112, u 113, u 114, u 115, u 116, u 117, u 118, u 119, u 120, u 121, u 122, u 123, u 124, u 125, u 126, u 127, u 128, u 129, u 130, u 131, u 132, u 133, u 134, u 135, u 136, u 137, u 138, u 139, u 140, u 141, u 142, u 143, u 144, u 145, u 146, u 147, u 148, u 149, u 150, u 151, u 152, u 153, u 154, u 155, u 156, u 157, u 158, u 159, u 160, u 161, u 162, u 163, u 164, u 165, u 166, u 167, u 168, u 169, u 170, u 171, u 172, u 173, u 174, u 175, u 176, u 177, u 178, u 179, u 180, u 181, u 182, u 183, u 184, u 185, u 186, u 187, u 188, u 189, u 190, u 191, u 192, u 193, u 194, u 195, u 196, u 197, u 198, u 199, u 200, u 201, u 202, u 203, u 204, u 205, u 206, u 207, u 208, u 209, u 210, u 211, u 212, u 213, u 214, u 215, u 216, u 217, u 218, u 219, u 220, u 221, u 222, u 223, u 224, u 225, u 226, u 227, u 228, u 229, u 230, u 231, u 232, u 233, u 234, u 235, u 236, u 237, u 238, u 239, u 240, u 241, u 242, u 243, u 244, u 245, u 246, u 247, u 248, u 249, u 250, u 251, u 252, u 253, u 254, u 255, u 256, u 257, u 258, u 259], defers := [] }
theorem inv_of {w : World} {B : Option Addr} {c1 : Nat} {l : List UInt8} {U : List Nat} {q : Nat} {wr : World} (tm : Array Value) (k : Nat) (A : Option Addr) (n c : Nat) (o : List Nat) (h : Rl w l U q k A n c o wr)
    (e : tm = #[.slice B l.length c1, .int .u8 (q : Int), tm.getD 2 undef, tm.getD 3 undef, .slice none 0 0, .bool false, .slice A n c, .int .i64 (l.length : Nat), .int .i64 (k : Nat), tm.getD 9 undef, tm.getD 10 undef, tm.getD 11 undef, tm.getD 12 undef, tm.getD 13 undef, tm.getD 14 undef, tm.getD 15 undef, tm.getD 16 undef, tm.getD 17 undef, tm.getD 18 undef, tm.getD 19 undef, tm.getD 20 undef, tm.getD 21 undef, tm.getD 22 undef, tm.getD 23 undef, tm.getD 24 undef, tm.getD 25 undef, tm.getD 26 undef, tm.getD 27 undef, tm.getD 28 undef, tm.getD 29 undef, tm.getD 30 undef, tm.getD 31 undef, tm.getD 32 undef, tm.getD 33 undef, tm.getD 34 undef, tm.getD 35 undef, tm.getD 36 undef, tm.getD 37 undef, tm.getD 38 undef, tm.getD 39 undef, tm.getD 40 undef, tm.getD 41 undef, tm.getD 42 undef, tm.getD 43 undef, tm.getD 44 undef, tm.getD 45 undef, tm.getD 46 undef, tm.getD 47 undef, tm.getD 48 undef, tm.getD 49 undef, tm.getD 50 undef, tm.getD 51 undef, tm.getD 52 undef, tm.getD 53 undef, tm.getD 54 undef, tm.getD 55 undef, tm.getD 56 undef, tm.getD 57 undef, tm.getD 58 undef, tm.getD 59 undef, tm.getD 60 undef, tm.getD 61 undef, tm.getD 62 undef, tm.getD 63 undef, tm.getD 64 undef, tm.getD 65 undef, tm.getD 66 undef, tm.getD 67 undef, tm.getD 68 undef, tm.getD 69 undef, tm.getD 70 undef, tm.getD 71 undef, tm.getD 72 undef, tm.getD 73 undef, tm.getD 74 undef, tm.getD 75 undef, tm.getD 76 undef, tm.getD 77 undef, tm.getD 78 undef, tm.getD 79 undef, tm.getD 80 undef, tm.getD 81 undef, tm.getD 82 undef, tm.getD 83 undef, tm.getD 84 undef, tm.getD 85 undef, tm.getD 86 undef, tm.getD 87 undef, tm.getD 88 undef, tm.getD 89 undef, tm.getD 90 undef, tm.getD 91 undef, tm.getD 92 undef, tm.getD 93 undef, tm.getD 94 undef, tm.getD 95 undef, tm.getD 96 undef, tm.getD 97 undef, tm.getD 98 undef, tm.getD 99 undef, tm.getD 100 undef, tm.getD 101 undef, tm.getD 102 undef, tm.getD 103 undef, tm.getD 104 undef, tm.getD 105 undef, tm.getD 106 undef, tm.getD 107 undef, tm.getD 108 undef, tm.getD 109 undef, tm.getD 110 undef, tm.getD 111 undef, tm.getD 112 undef, tm.getD 113 undef, tm.getD 114 undef, tm.getD 115 undef, tm.getD 116 undef, tm.getD 117 undef, tm.getD 118 undef, tm.getD 119 undef, tm.getD 120 undef, tm.getD 121 undef, tm.getD 122 undef, tm.getD 123 undef, tm.getD 124 undef, tm.getD 125 undef, tm.getD 126 undef, tm.getD 127 undef, tm.getD 128 undef, tm.getD 129 undef, tm.getD 130 undef, tm.getD 131 undef, tm.getD 132 undef, tm.getD 133 undef, tm.getD 134 undef, tm.getD 135 undef, tm.getD 136 undef, tm.getD 137 undef, tm.getD 138 undef, tm.getD 139 undef, tm.getD 140 undef, tm.getD 141 undef, tm.getD 142 undef, tm.getD 143 undef, tm.getD 144 undef, tm.getD 145 undef, tm.getD 146 undef, tm.getD 147 undef, tm.getD 148 undef, tm.getD 149 undef, tm.getD 150 undef, tm.getD 151 undef, tm.getD 152 undef, tm.getD 153 undef, tm.getD 154 undef, tm.getD 155 undef, tm.getD 156 undef, tm.getD 157 undef, tm.getD 158 undef, tm.getD 159 undef, tm.getD 160 undef, tm.getD 161 undef, tm.getD 162 undef, tm.getD 163 undef, tm.getD 164 undef, tm.getD 165 undef, tm.getD 166 undef, tm.getD 167 undef, tm.getD 168 undef, tm.getD 169 undef, tm.getD 170 undef, tm.getD 171 undef, tm.getD 172 undef, tm.getD 173 undef, tm.getD 174 undef, tm.getD 175 undef, tm.getD 176 undef, tm.getD 177 undef, tm.getD 178 undef, tm.getD 179 undef, tm.getD 180 undef, tm.getD 181 undef, tm.getD 182 undef, tm.getD 183 undef, tm.getD 184 undef, tm.getD 185 undef, tm.getD 186 undef, tm.getD 187 undef, tm.getD 188 undef, tm.getD 189 undef, tm.getD 190 undef, tm.getD 191 undef, tm.getD 192 undef, tm.getD 193 undef, tm.getD 194 undef, tm.getD 195 undef, tm.getD 196 undef, tm.getD 197 undef, tm.getD 198 undef, tm.getD 199 undef, tm.getD 200 undef, tm.getD 201 undef, tm.getD 202 undef, tm.getD 203 undef, tm.getD 204 undef, tm.getD 205 undef, tm.getD 206 undef, tm.getD 207 undef, tm.getD 208 undef, tm.getD 209 undef, tm.getD 210 undef, tm.getD 211 undef, tm.getD 212 undef, tm.getD 213 undef, tm.getD 214 undef, tm.getD 215 undef, tm.getD 216 undef, tm.getD 217 undef, tm.getD 218 undef, tm.getD 219 undef, tm.getD 220 undef, tm.getD 221 undef, tm.getD 222 undef, tm.getD 223 undef, tm.getD 224 undef, tm.getD 225 undef, tm.getD 226 undef, tm.getD 227 undef, tm.getD 228 undef, tm.getD 229 undef, tm.getD 230 undef, tm.getD 231 undef, tm.getD 232 undef, tm.getD 233 undef, tm.getD 234 undef, tm.getD 235 undef, tm.getD 236 undef, tm.getD 237 undef, tm.getD 238 undef, tm.getD 239 undef, tm.getD 240 undef, tm.getD 241 undef, tm.getD 242 undef, tm.getD 243 undef, tm.getD 244 undef, tm.getD 245 undef, tm.getD 246 undef, tm.getD 247 undef, tm.getD 248 undef, tm.getD 249 undef, tm.getD 250 undef, tm.getD 251 undef, tm.getD 252 undef, tm.getD 253 undef, tm.getD 254 undef, tm.getD 255 undef, tm.getD 256 undef, tm.getD 257 undef, tm.getD 258 undef, tm.getD 259 undef]) : Inv w B c1 l U q { tmps := tm, defers := [] } wr :=
  ⟨k, A, n, c, o, fun i => tm.getD i undef, h, by rw [← e]⟩
def vvOf (c j : Nat) : Nat := if j = 2 then 0 else if j = 3 then c / 4096 else if j = 4 then c / 256 else if j = 5 then c / 16 else c
/-- The inner loop: j − 2 hex digits are read. -/
def Inv2 (w wr : World) (x : Addr) (c1 : Nat) (l : List UInt8) (q k : Nat) (A : Option Addr) (n c : Nat) (vv : Nat → Nat) (a' : Act) (w' : World) : Prop :=
  wr = w' ∧ ∃ (j : Nat) (V : Int) (u : Nat → Value), 2 ≤ j ∧ j ≤ 6 ∧ V = (vv j : Int) ∧ a' = { tmps := #[.slice (some x) l.length c1, .int .u8 (q : Int), u 2, u 3, .slice none 0 0, .bool false, .slice A n c, .int .i64 (l.length : Nat), .int .i64 (k : Nat), u 9, u 10, u 11, u 12, .int .i64 V, .int .i64 (j : Nat), u 15, u 16, u 17, u 18, u 19, u 20, u 21, u 22, u 23, u 24, u 25, u 26, u 27, u 28, u 29, u 30, u 31, u 32, u 33, u 34, u 35, u 36, u 37, u 38, u 39, u 40, u 41, u 42, u 43, u 44, u 45, u 46, u 47, u 48, u 49, u 50, u 51, u 52, u 53, u 54, u 55, u 56, u 57, u 58, u 59, u 60, u 61, u 62, u 63, u 64, u 65, u 66, u 67, u 68, u 69, u 70, u 71, u 72, u 73, u 74, u 75, u 76, u 77, u 78, u 79, u 80, u 81, u 82, u 83, u 84, u 85, u 86, u 87, u 88, u 89, u 90, u 91, u 92, u 93, u 94, u 95, u 96, u 97, u 98, u 99, u 100, u 101, u 102, u 103, u 104, u 105, u 106, u 107, u 108, u 109, u 110, u 111, u 112, u 113, u 114, u 115, u 116, u 117, u 118, u 119, u 120, u 121, u 122, u 123, u 124, u 125, u 126, u 127, u 128, u 129, u 130, u 131, u 132, u 133, u 134, u 135, u 136, u 137, u 138, u 139, u 140, u 141, u 142, u 143, u 144, u 145, u 146, u 147, u 148, u 149, u 150, u 151, u 152, u 153, u 154, u 155, u 156, u 157, u 158, u 159, u 160, u 161, u 162, u 163, u 164, u 165, u 166, u 167, u 168, u 169, u 170, u 171, u 172, u 173, u 174, u 175, u 176, u 177, u 178, u 179, u 180, u 181, u 182, u 183, u 184, u 185, u 186, u 187, u 188, u 189, u 190, u 191, u 192, u 193, u 194, u 195, u 196, u 197, u 198, u 199, u 200, u 201, u 202, u 203, u 204, u 205, u 206, u 207, u 208, u 209, u 210, u 211, u 212, u 213, u 214, u 215, u 216, u 217, u 218, u 219, u 220, u 221, u 222, u 223, u 224, u 225, u 226, u 227, u 228, u 229, u 230, u 231, u 232, u 233, u 234, u 235, u 236, u 237, u 238, u 239, u 240, u 241, u 242, u 243, u 244, u 245, u 246, u 247, u 248, u 249, u 250, u 251, u 252, u 253, u 254, u 255, u 256, u 257, u 258, u 259], defers := [] }
theorem inv2_of {w wr : World} {x : Addr} {c1 : Nat} {l : List UInt8} {q k : Nat} {A : Option Addr} {n c : Nat} {vv : Nat → Nat} (tm : Array Value) (j : Nat) (V : Int) (h2 : 2 ≤ j) (h6 : j ≤ 6) (hV : V = (vv j : Int))
    (e : tm = #[.slice (some x) l.length c1, .int .u8 (q : Int), tm.getD 2 undef, tm.getD 3 undef, .slice none 0 0, .bool false, .slice A n c, .int .i64 (l.length : Nat), .int .i64 (k : Nat), tm.getD 9 undef, tm.getD 10 undef, tm.getD 11 undef, tm.getD 12 undef, .int .i64 V, .int .i64 (j : Nat), tm.getD 15 undef, tm.getD 16 undef, tm.getD 17 undef, tm.getD 18 undef, tm.getD 19 undef, tm.getD 20 undef, tm.getD 21 undef, tm.getD 22 undef, tm.getD 23 undef, tm.getD 24 undef, tm.getD 25 undef, tm.getD 26 undef, tm.getD 27 undef, tm.getD 28 undef, tm.getD 29 undef, tm.getD 30 undef, tm.getD 31 undef, tm.getD 32 undef, tm.getD 33 undef, tm.getD 34 undef, tm.getD 35 undef, tm.getD 36 undef, tm.getD 37 undef, tm.getD 38 undef, tm.getD 39 undef, tm.getD 40 undef, tm.getD 41 undef, tm.getD 42 undef, tm.getD 43 undef, tm.getD 44 undef, tm.getD 45 undef, tm.getD 46 undef, tm.getD 47 undef, tm.getD 48 undef, tm.getD 49 undef, tm.getD 50 undef, tm.getD 51 undef, tm.getD 52 undef, tm.getD 53 undef, tm.getD 54 undef, tm.getD 55 undef, tm.getD 56 undef, tm.getD 57 undef, tm.getD 58 undef, tm.getD 59 undef, tm.getD 60 undef, tm.getD 61 undef, tm.getD 62 undef, tm.getD 63 undef, tm.getD 64 undef, tm.getD 65 undef, tm.getD 66 undef, tm.getD 67 undef, tm.getD 68 undef, tm.getD 69 undef, tm.getD 70 undef, tm.getD 71 undef, tm.getD 72 undef, tm.getD 73 undef, tm.getD 74 undef, tm.getD 75 undef, tm.getD 76 undef, tm.getD 77 undef, tm.getD 78 undef, tm.getD 79 undef, tm.getD 80 undef, tm.getD 81 undef, tm.getD 82 undef, tm.getD 83 undef, tm.getD 84 undef, tm.getD 85 undef, tm.getD 86 undef, tm.getD 87 undef, tm.getD 88 undef, tm.getD 89 undef, tm.getD 90 undef, tm.getD 91 undef, tm.getD 92 undef, tm.getD 93 undef, tm.getD 94 undef, tm.getD 95 undef, tm.getD 96 undef, tm.getD 97 undef, tm.getD 98 undef, tm.getD 99 undef, tm.getD 100 undef, tm.getD 101 undef, tm.getD 102 undef, tm.getD 103 undef, tm.getD 104 undef, tm.getD 105 undef, tm.getD 106 undef, tm.getD 107 undef, tm.getD 108 undef, tm.getD 109 undef, tm.getD 110 undef, tm.getD 111 undef, tm.getD 112 undef, tm.getD 113 undef, tm.getD 114 undef, tm.getD 115 undef, tm.getD 116 undef, tm.getD 117 undef, tm.getD 118 undef, tm.getD 119 undef, tm.getD 120 undef, tm.getD 121 undef, tm.getD 122 undef, tm.getD 123 undef, tm.getD 124 undef, tm.getD 125 undef, tm.getD 126 undef, tm.getD 127 undef, tm.getD 128 undef, tm.getD 129 undef, tm.getD 130 undef, tm.getD 131 undef, tm.getD 132 undef, tm.getD 133 undef, tm.getD 134 undef, tm.getD 135 undef, tm.getD 136 undef, tm.getD 137 undef, tm.getD 138 undef, tm.getD 139 undef, tm.getD 140 undef, tm.getD 141 undef, tm.getD 142 undef, tm.getD 143 undef, tm.getD 144 undef, tm.getD 145 undef, tm.getD 146 undef, tm.getD 147 undef, tm.getD 148 undef, tm.getD 149 undef, tm.getD 150 undef, tm.getD 151 undef, tm.getD 152 undef, tm.getD 153 undef, tm.getD 154 undef, tm.getD 155 undef, tm.getD 156 undef, tm.getD 157 undef, tm.getD 158 undef, tm.getD 159 undef, tm.getD 160 undef, tm.getD 161 undef, tm.getD 162 undef, tm.getD 163 undef, tm.getD 164 undef, tm.getD 165 undef, tm.getD 166 undef, tm.getD 167 undef, tm.getD 168 undef, tm.getD 169 undef, tm.getD 170 undef, tm.getD 171 undef, tm.getD 172 undef, tm.getD 173 undef, tm.getD 174 undef, tm.getD 175 undef, tm.getD 176 undef, tm.getD 177 undef, tm.getD 178 undef, tm.getD 179 undef, tm.getD 180 undef, tm.getD 181 undef, tm.getD 182 undef, tm.getD 183 undef, tm.getD 184 undef, tm.getD 185 undef, tm.getD 186 undef, tm.getD 187 undef, tm.getD 188 undef, tm.getD 189 undef, tm.getD 190 undef, tm.getD 191 undef, tm.getD 192 undef, tm.getD 193 undef, tm.getD 194 undef, tm.getD 195 undef, tm.getD 196 undef, tm.getD 197 undef, tm.getD 198 undef, tm.getD 199 undef, tm.getD 200 undef, tm.getD 201 undef, tm.getD 202 undef, tm.getD 203 undef, tm.getD 204 undef, tm.getD 205 undef, tm.getD 206 undef, tm.getD 207 undef, tm.getD 208 undef, tm.getD 209 undef, tm.getD 210 undef, tm.getD 211 undef, tm.getD 212 undef, tm.getD 213 undef, tm.getD 214 undef, tm.getD 215 undef, tm.getD 216 undef, tm.getD 217 undef, tm.getD 218 undef, tm.getD 219 undef, tm.getD 220 undef, tm.getD 221 undef, tm.getD 222 undef, tm.getD 223 undef, tm.getD 224 undef, tm.getD 225 undef, tm.getD 226 undef, tm.getD 227 undef, tm.getD 228 undef, tm.getD 229 undef, tm.getD 230 undef, tm.getD 231 undef, tm.getD 232 undef, tm.getD 233 undef, tm.getD 234 undef, tm.getD 235 undef, tm.getD 236 undef, tm.getD 237 undef, tm.getD 238 undef, tm.getD 239 undef, tm.getD 240 undef, tm.getD 241 undef, tm.getD 242 undef, tm.getD 243 undef, tm.getD 244 undef, tm.getD 245 undef, tm.getD 246 undef, tm.getD 247 undef, tm.getD 248 undef, tm.getD 249 undef, tm.getD 250 undef, tm.getD 251 undef, tm.getD 252 undef, tm.getD 253 undef, tm.getD 254 undef, tm.getD 255 undef, tm.getD 256 undef, tm.getD 257 undef, tm.getD 258 undef, tm.getD 259 undef]) : Inv2 w wr x c1 l q k A n c vv { tmps := tm, defers := [] } wr :=
  ⟨rfl, j, V, fun i => tm.getD i undef, h2, h6, hV, by rw [← e]⟩
def Dd (U : List Nat) (w : World) (e : Ending) (w' : World) : Prop := ∃ A n c, e = .returned (.tuple #[.slice A n c, .bool true]) ∧ n = U.length ∧ Own w' w.heap.size 29 (.slice A n c) (uv U) ∧ Below w.heap.size w w'
set_option maxRecDepth 20000 in
set_option maxHeartbeats 8000000 in
theorem dec7 (w : World) (B : Option Addr) (c1 : Nat) (l : List UInt8) (U : List Nat) (q : Nat) (hR : Rd w w.heap.size B (bv l)) (hB : Bod q l U) (hl0 : l.length ≤ 536870912) (hq : q = 34 ∨ q = 39 ∨ q = 96) :
    Calls Tryf.prog 7 #[.slice B l.length c1, .int .u8 (q : Int)] w (Dd U w) := by
  have HUL := Lib.hid hB.len
  have hl : l.length ≤ 1073741824 := by omega
  have HR := Lib.hid hR; have HQ := Lib.hid hq
  obtain ⟨i0, hi, hz0, hz1, hz2⟩ := info_parts infoU
  obtain ⟨w0, hmk, hown, hgr⟩ := run_make_own (P := Tryf.prog) w w.heap.size 22 29 i0 (.int .u16 0) 1 Tryf.underlying22 hi hz0 hz1 .i64 .i64 l.length (by rw [hz2]; omega) (by unfold maxLen; omega) (Nat.le_refl _)
  have hb0 : Below w.heap.size w w0 := ⟨hgr.os, hgr.tape, hgr.output, hgr.size, fun i hi => hgr.block i hi (by simp)⟩
  have S0 : Hid (Rl w l U q 0 (some ⟨w.heap.size, 0, none⟩) 0 l.length [] w0) := Lib.hid ⟨⟨Own.of_owns hown, hb0⟩, Nat.zero_le _, U, by rw [List.drop_zero]; exact hB, rfl⟩
  clear hi hz0 hz1 hz2 hown hgr hb0 hR hB hq
  go_enter Tryf.func7, Tryf.ntmps7
  go_wp2_with (fail)
  clear hmk
  refine wp_loop (Inv w B c1 l U q) (fun a' _ => l.length - (intOf (a'.tmps.getD 8 undef)).toNat) ?_ ?_
  · exact inv_of _ 0 _ _ _ [] S0.out (by kernel_rfl)
  · clear S0
    rintro a' wr ⟨k, A, n, c, o, u, hrel, rfl⟩
    have HS := Lib.hid hrel.on
    have hle := hrel.le
    obtain ⟨uu, hb, ho⟩ := hrel.bod
    clear hrel
    have hml : Hid ((uv o).length + 1 ≤ 1073741824) := Lib.hid (by
      have h1 := congrArg List.length ho
      have h2 := HUL.out
      rw [List.length_append] at h1
      rw [uv_len]
      omega)
    have hml2 : Hid ((uv o).length + 2 ≤ 1073741824) := Lib.hid (by
      have h1 := congrArg List.length ho
      have h2 := HUL.out
      rw [List.length_append] at h1
      rw [uv_len]
      omega)
    generalize ht : l.drop k = tt0 at hb
    by_cases hk : k < l.length
    · obtain ⟨x, rfl, hxb, _⟩ := HR.out (by rw [bv_len]; omega)
      have hq3 := HQ.out
      cases hb with
      | nil =>
        have := congrArg List.length ht
        rw [List.length_drop] at this
        simp only [List.length_nil] at this
        omega
      | esc e v t u h r =>
        have HT := Lib.hid ht; have HO := Lib.hid ho; have HB := Lib.hid r
        clear ht ho r
        unfold escs at h
        simp only [List.mem_cons, List.not_mem_nil, or_false, Prod.mk.injEq] at h
        rcases h with ⟨rfl, rfl⟩ | ⟨rfl, rfl⟩ | ⟨rfl, rfl⟩ | ⟨rfl, rfl⟩ | ⟨rfl, rfl⟩ | ⟨rfl, rfl⟩ | ⟨rfl, rfl⟩ | ⟨rfl, rfl⟩ | ⟨rfl, rfl⟩ | ⟨rfl, rfl⟩ | ⟨rfl, rfl⟩
        · have HLE := Lib.hid (show k + 2 ≤ l.length from drop_len k 2 _ HT.out (by simp only [List.length_cons]; omega) (by omega))
          have hx0 : wr.cell? (x.add k) = some (.int .u8 (92)) := by have := see x HR.out HS.out.bel HT.out 0 _ rfl; rw [Nat.add_zero] at this; rw [this]; rfl
          have hx1 : wr.cell? ⟨x.block, x.off + (k + 1), none⟩ = some (.int .u8 (98)) := by have := see x HR.out HS.out.bel HT.out 1 _ rfl; rw [add_pos x (k + 1) (by omega)] at this; rw [this]; rfl
          have f0 : (k : Int) < (l.length : Int) := by have := HLE.out; omega
          have f1 : (k : Int) + 1 < (l.length : Int) := by have := HLE.out; omega
          have f1' : ¬ (l.length : Int) ≤ (k : Int) + 1 := by omega
          have eq : ((92 : Int) == (q : Int)) = false := by rw [beq_eq_false_iff_ne]; omega
          go_wp2_with (at_builtin; refine append_any _ rfl (.tmp 140) (.tmp 141) 22 29 rfl w.heap.size Tryf.underlying22 (.int .u16 0) 2 rfl (by omega) infoU (.slice A n c) (uv (o)) rfl (HS.out.own.alloc _) (wr.heap.size + 1) (some ⟨wr.heap.size, 0, none⟩) 1 1 [.int .u16 8] rfl rfl (rd_cells16 _ _) (one_u16 [8]) hml.out (le_alloc HS.out.bel.size _) ?_; intro v1 w1 o1 g1 at1; obtain ⟨A2, n2, c2, rfl, T2⟩ := HS.out.app (K := [8]) g1 o1 rfl; have S2 := Lib.hid T2; clear T2 o1 g1 at1)
          exact ⟨inv_of _ (k + 2) A2 n2 c2 (o ++ [8]) ⟨S2.out, HLE.out, _, (by rw [drop_at k 2 _ HT.out]; exact HB.out), by rw [List.append_assoc]; exact HO.out⟩ (by kernel_rfl), by simp [intOf]; omega⟩
        · have HLE := Lib.hid (show k + 2 ≤ l.length from drop_len k 2 _ HT.out (by simp only [List.length_cons]; omega) (by omega))
          have hx0 : wr.cell? (x.add k) = some (.int .u8 (92)) := by have := see x HR.out HS.out.bel HT.out 0 _ rfl; rw [Nat.add_zero] at this; rw [this]; rfl
          have hx1 : wr.cell? ⟨x.block, x.off + (k + 1), none⟩ = some (.int .u8 (102)) := by have := see x HR.out HS.out.bel HT.out 1 _ rfl; rw [add_pos x (k + 1) (by omega)] at this; rw [this]; rfl
          have f0 : (k : Int) < (l.length : Int) := by have := HLE.out; omega
          have f1 : (k : Int) + 1 < (l.length : Int) := by have := HLE.out; omega
          have f1' : ¬ (l.length : Int) ≤ (k : Int) + 1 := by omega
          have eq : ((92 : Int) == (q : Int)) = false := by rw [beq_eq_false_iff_ne]; omega
          go_wp2_with (at_builtin; refine append_any _ rfl (.tmp 147) (.tmp 148) 22 29 rfl w.heap.size Tryf.underlying22 (.int .u16 0) 2 rfl (by omega) infoU (.slice A n c) (uv (o)) rfl (HS.out.own.alloc _) (wr.heap.size + 1) (some ⟨wr.heap.size, 0, none⟩) 1 1 [.int .u16 12] rfl rfl (rd_cells16 _ _) (one_u16 [12]) hml.out (le_alloc HS.out.bel.size _) ?_; intro v1 w1 o1 g1 at1; obtain ⟨A2, n2, c2, rfl, T2⟩ := HS.out.app (K := [12]) g1 o1 rfl; have S2 := Lib.hid T2; clear T2 o1 g1 at1)
          exact ⟨inv_of _ (k + 2) A2 n2 c2 (o ++ [12]) ⟨S2.out, HLE.out, _, (by rw [drop_at k 2 _ HT.out]; exact HB.out), by rw [List.append_assoc]; exact HO.out⟩ (by kernel_rfl), by simp [intOf]; omega⟩
        · have HLE := Lib.hid (show k + 2 ≤ l.length from drop_len k 2 _ HT.out (by simp only [List.length_cons]; omega) (by omega))
          have hx0 : wr.cell? (x.add k) = some (.int .u8 (92)) := by have := see x HR.out HS.out.bel HT.out 0 _ rfl; rw [Nat.add_zero] at this; rw [this]; rfl
          have hx1 : wr.cell? ⟨x.block, x.off + (k + 1), none⟩ = some (.int .u8 (110)) := by have := see x HR.out HS.out.bel HT.out 1 _ rfl; rw [add_pos x (k + 1) (by omega)] at this; rw [this]; rfl
          have f0 : (k : Int) < (l.length : Int) := by have := HLE.out; omega
          have f1 : (k : Int) + 1 < (l.length : Int) := by have := HLE.out; omega
          have f1' : ¬ (l.length : Int) ≤ (k : Int) + 1 := by omega
          have eq : ((92 : Int) == (q : Int)) = false := by rw [beq_eq_false_iff_ne]; omega
          go_wp2_with (at_builtin; refine append_any _ rfl (.tmp 154) (.tmp 155) 22 29 rfl w.heap.size Tryf.underlying22 (.int .u16 0) 2 rfl (by omega) infoU (.slice A n c) (uv (o)) rfl (HS.out.own.alloc _) (wr.heap.size + 1) (some ⟨wr.heap.size, 0, none⟩) 1 1 [.int .u16 10] rfl rfl (rd_cells16 _ _) (one_u16 [10]) hml.out (le_alloc HS.out.bel.size _) ?_; intro v1 w1 o1 g1 at1; obtain ⟨A2, n2, c2, rfl, T2⟩ := HS.out.app (K := [10]) g1 o1 rfl; have S2 := Lib.hid T2; clear T2 o1 g1 at1)
          exact ⟨inv_of _ (k + 2) A2 n2 c2 (o ++ [10]) ⟨S2.out, HLE.out, _, (by rw [drop_at k 2 _ HT.out]; exact HB.out), by rw [List.append_assoc]; exact HO.out⟩ (by kernel_rfl), by simp [intOf]; omega⟩
        · have HLE := Lib.hid (show k + 2 ≤ l.length from drop_len k 2 _ HT.out (by simp only [List.length_cons]; omega) (by omega))
          have hx0 : wr.cell? (x.add k) = some (.int .u8 (92)) := by have := see x HR.out HS.out.bel HT.out 0 _ rfl; rw [Nat.add_zero] at this; rw [this]; rfl
          have hx1 : wr.cell? ⟨x.block, x.off + (k + 1), none⟩ = some (.int .u8 (114)) := by have := see x HR.out HS.out.bel HT.out 1 _ rfl; rw [add_pos x (k + 1) (by omega)] at this; rw [this]; rfl
          have f0 : (k : Int) < (l.length : Int) := by have := HLE.out; omega
          have f1 : (k : Int) + 1 < (l.length : Int) := by have := HLE.out; omega
          have f1' : ¬ (l.length : Int) ≤ (k : Int) + 1 := by omega
          have eq : ((92 : Int) == (q : Int)) = false := by rw [beq_eq_false_iff_ne]; omega
          go_wp2_with (at_builtin; refine append_any _ rfl (.tmp 161) (.tmp 162) 22 29 rfl w.heap.size Tryf.underlying22 (.int .u16 0) 2 rfl (by omega) infoU (.slice A n c) (uv (o)) rfl (HS.out.own.alloc _) (wr.heap.size + 1) (some ⟨wr.heap.size, 0, none⟩) 1 1 [.int .u16 13] rfl rfl (rd_cells16 _ _) (one_u16 [13]) hml.out (le_alloc HS.out.bel.size _) ?_; intro v1 w1 o1 g1 at1; obtain ⟨A2, n2, c2, rfl, T2⟩ := HS.out.app (K := [13]) g1 o1 rfl; have S2 := Lib.hid T2; clear T2 o1 g1 at1)
          exact ⟨inv_of _ (k + 2) A2 n2 c2 (o ++ [13]) ⟨S2.out, HLE.out, _, (by rw [drop_at k 2 _ HT.out]; exact HB.out), by rw [List.append_assoc]; exact HO.out⟩ (by kernel_rfl), by simp [intOf]; omega⟩
        · have HLE := Lib.hid (show k + 2 ≤ l.length from drop_len k 2 _ HT.out (by simp only [List.length_cons]; omega) (by omega))
          have hx0 : wr.cell? (x.add k) = some (.int .u8 (92)) := by have := see x HR.out HS.out.bel HT.out 0 _ rfl; rw [Nat.add_zero] at this; rw [this]; rfl
          have hx1 : wr.cell? ⟨x.block, x.off + (k + 1), none⟩ = some (.int .u8 (118)) := by have := see x HR.out HS.out.bel HT.out 1 _ rfl; rw [add_pos x (k + 1) (by omega)] at this; rw [this]; rfl
          have f0 : (k : Int) < (l.length : Int) := by have := HLE.out; omega
          have f1 : (k : Int) + 1 < (l.length : Int) := by have := HLE.out; omega
          have f1' : ¬ (l.length : Int) ≤ (k : Int) + 1 := by omega
          have eq : ((92 : Int) == (q : Int)) = false := by rw [beq_eq_false_iff_ne]; omega
          go_wp2_with (at_builtin; refine append_any _ rfl (.tmp 168) (.tmp 169) 22 29 rfl w.heap.size Tryf.underlying22 (.int .u16 0) 2 rfl (by omega) infoU (.slice A n c) (uv (o)) rfl (HS.out.own.alloc _) (wr.heap.size + 1) (some ⟨wr.heap.size, 0, none⟩) 1 1 [.int .u16 11] rfl rfl (rd_cells16 _ _) (one_u16 [11]) hml.out (le_alloc HS.out.bel.size _) ?_; intro v1 w1 o1 g1 at1; obtain ⟨A2, n2, c2, rfl, T2⟩ := HS.out.app (K := [11]) g1 o1 rfl; have S2 := Lib.hid T2; clear T2 o1 g1 at1)
          exact ⟨inv_of _ (k + 2) A2 n2 c2 (o ++ [11]) ⟨S2.out, HLE.out, _, (by rw [drop_at k 2 _ HT.out]; exact HB.out), by rw [List.append_assoc]; exact HO.out⟩ (by kernel_rfl), by simp [intOf]; omega⟩
        · have HLE := Lib.hid (show k + 2 ≤ l.length from drop_len k 2 _ HT.out (by simp only [List.length_cons]; omega) (by omega))
          have hx0 : wr.cell? (x.add k) = some (.int .u8 (92)) := by have := see x HR.out HS.out.bel HT.out 0 _ rfl; rw [Nat.add_zero] at this; rw [this]; rfl
          have hx1 : wr.cell? ⟨x.block, x.off + (k + 1), none⟩ = some (.int .u8 (92)) := by have := see x HR.out HS.out.bel HT.out 1 _ rfl; rw [add_pos x (k + 1) (by omega)] at this; rw [this]; rfl
          have f0 : (k : Int) < (l.length : Int) := by have := HLE.out; omega
          have f1 : (k : Int) + 1 < (l.length : Int) := by have := HLE.out; omega
          have f1' : ¬ (l.length : Int) ≤ (k : Int) + 1 := by omega
          have eq : ((92 : Int) == (q : Int)) = false := by rw [beq_eq_false_iff_ne]; omega
          go_wp2_with (at_builtin; refine append_any _ rfl (.tmp 180) (.tmp 183) 22 29 rfl w.heap.size Tryf.underlying22 (.int .u16 0) 2 rfl (by omega) infoU (.slice A n c) (uv (o)) rfl (HS.out.own.alloc _) (wr.heap.size + 1) (some ⟨wr.heap.size, 0, none⟩) 1 1 [.int .u16 92] rfl rfl (rd_cells16 _ _) (one_u16 [92]) hml.out (le_alloc HS.out.bel.size _) ?_; intro v1 w1 o1 g1 at1; obtain ⟨A2, n2, c2, rfl, T2⟩ := HS.out.app (K := [92]) g1 o1 rfl; have S2 := Lib.hid T2; clear T2 o1 g1 at1)
          exact ⟨inv_of _ (k + 2) A2 n2 c2 (o ++ [92]) ⟨S2.out, HLE.out, _, (by rw [drop_at k 2 _ HT.out]; exact HB.out), by rw [List.append_assoc]; exact HO.out⟩ (by kernel_rfl), by simp [intOf]; omega⟩
        · have HLE := Lib.hid (show k + 2 ≤ l.length from drop_len k 2 _ HT.out (by simp only [List.length_cons]; omega) (by omega))
          have hx0 : wr.cell? (x.add k) = some (.int .u8 (92)) := by have := see x HR.out HS.out.bel HT.out 0 _ rfl; rw [Nat.add_zero] at this; rw [this]; rfl
          have hx1 : wr.cell? ⟨x.block, x.off + (k + 1), none⟩ = some (.int .u8 (39)) := by have := see x HR.out HS.out.bel HT.out 1 _ rfl; rw [add_pos x (k + 1) (by omega)] at this; rw [this]; rfl
          have f0 : (k : Int) < (l.length : Int) := by have := HLE.out; omega
          have f1 : (k : Int) + 1 < (l.length : Int) := by have := HLE.out; omega
          have f1' : ¬ (l.length : Int) ≤ (k : Int) + 1 := by omega
          have eq : ((92 : Int) == (q : Int)) = false := by rw [beq_eq_false_iff_ne]; omega
          go_wp2_with (at_builtin; refine append_any _ rfl (.tmp 180) (.tmp 183) 22 29 rfl w.heap.size Tryf.underlying22 (.int .u16 0) 2 rfl (by omega) infoU (.slice A n c) (uv (o)) rfl (HS.out.own.alloc _) (wr.heap.size + 1) (some ⟨wr.heap.size, 0, none⟩) 1 1 [.int .u16 39] rfl rfl (rd_cells16 _ _) (one_u16 [39]) hml.out (le_alloc HS.out.bel.size _) ?_; intro v1 w1 o1 g1 at1; obtain ⟨A2, n2, c2, rfl, T2⟩ := HS.out.app (K := [39]) g1 o1 rfl; have S2 := Lib.hid T2; clear T2 o1 g1 at1)
          exact ⟨inv_of _ (k + 2) A2 n2 c2 (o ++ [39]) ⟨S2.out, HLE.out, _, (by rw [drop_at k 2 _ HT.out]; exact HB.out), by rw [List.append_assoc]; exact HO.out⟩ (by kernel_rfl), by simp [intOf]; omega⟩
        · have HLE := Lib.hid (show k + 2 ≤ l.length from drop_len k 2 _ HT.out (by simp only [List.length_cons]; omega) (by omega))
          have hx0 : wr.cell? (x.add k) = some (.int .u8 (92)) := by have := see x HR.out HS.out.bel HT.out 0 _ rfl; rw [Nat.add_zero] at this; rw [this]; rfl
          have hx1 : wr.cell? ⟨x.block, x.off + (k + 1), none⟩ = some (.int .u8 (34)) := by have := see x HR.out HS.out.bel HT.out 1 _ rfl; rw [add_pos x (k + 1) (by omega)] at this; rw [this]; rfl
          have f0 : (k : Int) < (l.length : Int) := by have := HLE.out; omega
          have f1 : (k : Int) + 1 < (l.length : Int) := by have := HLE.out; omega
          have f1' : ¬ (l.length : Int) ≤ (k : Int) + 1 := by omega
          have eq : ((92 : Int) == (q : Int)) = false := by rw [beq_eq_false_iff_ne]; omega
          go_wp2_with (at_builtin; refine append_any _ rfl (.tmp 180) (.tmp 183) 22 29 rfl w.heap.size Tryf.underlying22 (.int .u16 0) 2 rfl (by omega) infoU (.slice A n c) (uv (o)) rfl (HS.out.own.alloc _) (wr.heap.size + 1) (some ⟨wr.heap.size, 0, none⟩) 1 1 [.int .u16 34] rfl rfl (rd_cells16 _ _) (one_u16 [34]) hml.out (le_alloc HS.out.bel.size _) ?_; intro v1 w1 o1 g1 at1; obtain ⟨A2, n2, c2, rfl, T2⟩ := HS.out.app (K := [34]) g1 o1 rfl; have S2 := Lib.hid T2; clear T2 o1 g1 at1)
          exact ⟨inv_of _ (k + 2) A2 n2 c2 (o ++ [34]) ⟨S2.out, HLE.out, _, (by rw [drop_at k 2 _ HT.out]; exact HB.out), by rw [List.append_assoc]; exact HO.out⟩ (by kernel_rfl), by simp [intOf]; omega⟩
        · have HLE := Lib.hid (show k + 2 ≤ l.length from drop_len k 2 _ HT.out (by simp only [List.length_cons]; omega) (by omega))
          have hx0 : wr.cell? (x.add k) = some (.int .u8 (92)) := by have := see x HR.out HS.out.bel HT.out 0 _ rfl; rw [Nat.add_zero] at this; rw [this]; rfl
          have hx1 : wr.cell? ⟨x.block, x.off + (k + 1), none⟩ = some (.int .u8 (96)) := by have := see x HR.out HS.out.bel HT.out 1 _ rfl; rw [add_pos x (k + 1) (by omega)] at this; rw [this]; rfl
          have f0 : (k : Int) < (l.length : Int) := by have := HLE.out; omega
          have f1 : (k : Int) + 1 < (l.length : Int) := by have := HLE.out; omega
          have f1' : ¬ (l.length : Int) ≤ (k : Int) + 1 := by omega
          have eq : ((92 : Int) == (q : Int)) = false := by rw [beq_eq_false_iff_ne]; omega
          go_wp2_with (at_builtin; refine append_any _ rfl (.tmp 180) (.tmp 183) 22 29 rfl w.heap.size Tryf.underlying22 (.int .u16 0) 2 rfl (by omega) infoU (.slice A n c) (uv (o)) rfl (HS.out.own.alloc _) (wr.heap.size + 1) (some ⟨wr.heap.size, 0, none⟩) 1 1 [.int .u16 96] rfl rfl (rd_cells16 _ _) (one_u16 [96]) hml.out (le_alloc HS.out.bel.size _) ?_; intro v1 w1 o1 g1 at1; obtain ⟨A2, n2, c2, rfl, T2⟩ := HS.out.app (K := [96]) g1 o1 rfl; have S2 := Lib.hid T2; clear T2 o1 g1 at1)
          exact ⟨inv_of _ (k + 2) A2 n2 c2 (o ++ [96]) ⟨S2.out, HLE.out, _, (by rw [drop_at k 2 _ HT.out]; exact HB.out), by rw [List.append_assoc]; exact HO.out⟩ (by kernel_rfl), by simp [intOf]; omega⟩
        · have HLE := Lib.hid (show k + 2 ≤ l.length from drop_len k 2 _ HT.out (by simp only [List.length_cons]; omega) (by omega))
          have hx0 : wr.cell? (x.add k) = some (.int .u8 (92)) := by have := see x HR.out HS.out.bel HT.out 0 _ rfl; rw [Nat.add_zero] at this; rw [this]; rfl
          have hx1 : wr.cell? ⟨x.block, x.off + (k + 1), none⟩ = some (.int .u8 (36)) := by have := see x HR.out HS.out.bel HT.out 1 _ rfl; rw [add_pos x (k + 1) (by omega)] at this; rw [this]; rfl
          have f0 : (k : Int) < (l.length : Int) := by have := HLE.out; omega
          have f1 : (k : Int) + 1 < (l.length : Int) := by have := HLE.out; omega
          have f1' : ¬ (l.length : Int) ≤ (k : Int) + 1 := by omega
          have eq : ((92 : Int) == (q : Int)) = false := by rw [beq_eq_false_iff_ne]; omega
          go_wp2_with (at_builtin; refine append_any _ rfl (.tmp 180) (.tmp 183) 22 29 rfl w.heap.size Tryf.underlying22 (.int .u16 0) 2 rfl (by omega) infoU (.slice A n c) (uv (o)) rfl (HS.out.own.alloc _) (wr.heap.size + 1) (some ⟨wr.heap.size, 0, none⟩) 1 1 [.int .u16 36] rfl rfl (rd_cells16 _ _) (one_u16 [36]) hml.out (le_alloc HS.out.bel.size _) ?_; intro v1 w1 o1 g1 at1; obtain ⟨A2, n2, c2, rfl, T2⟩ := HS.out.app (K := [36]) g1 o1 rfl; have S2 := Lib.hid T2; clear T2 o1 g1 at1)
          exact ⟨inv_of _ (k + 2) A2 n2 c2 (o ++ [36]) ⟨S2.out, HLE.out, _, (by rw [drop_at k 2 _ HT.out]; exact HB.out), by rw [List.append_assoc]; exact HO.out⟩ (by kernel_rfl), by simp [intOf]; omega⟩
        · have HLE := Lib.hid (show k + 2 ≤ l.length from drop_len k 2 _ HT.out (by simp only [List.length_cons]; omega) (by omega))
          have hx0 : wr.cell? (x.add k) = some (.int .u8 (92)) := by have := see x HR.out HS.out.bel HT.out 0 _ rfl; rw [Nat.add_zero] at this; rw [this]; rfl
          have hx1 : wr.cell? ⟨x.block, x.off + (k + 1), none⟩ = some (.int .u8 (47)) := by have := see x HR.out HS.out.bel HT.out 1 _ rfl; rw [add_pos x (k + 1) (by omega)] at this; rw [this]; rfl
          have f0 : (k : Int) < (l.length : Int) := by have := HLE.out; omega
          have f1 : (k : Int) + 1 < (l.length : Int) := by have := HLE.out; omega
          have f1' : ¬ (l.length : Int) ≤ (k : Int) + 1 := by omega
          have eq : ((92 : Int) == (q : Int)) = false := by rw [beq_eq_false_iff_ne]; omega
          go_wp2_with (at_builtin; refine append_any _ rfl (.tmp 180) (.tmp 183) 22 29 rfl w.heap.size Tryf.underlying22 (.int .u16 0) 2 rfl (by omega) infoU (.slice A n c) (uv (o)) rfl (HS.out.own.alloc _) (wr.heap.size + 1) (some ⟨wr.heap.size, 0, none⟩) 1 1 [.int .u16 47] rfl rfl (rd_cells16 _ _) (one_u16 [47]) hml.out (le_alloc HS.out.bel.size _) ?_; intro v1 w1 o1 g1 at1; obtain ⟨A2, n2, c2, rfl, T2⟩ := HS.out.app (K := [47]) g1 o1 rfl; have S2 := Lib.hid T2; clear T2 o1 g1 at1)
          exact ⟨inv_of _ (k + 2) A2 n2 c2 (o ++ [47]) ⟨S2.out, HLE.out, _, (by rw [drop_at k 2 _ HT.out]; exact HB.out), by rw [List.append_assoc]; exact HO.out⟩ (by kernel_rfl), by simp [intOf]; omega⟩
      | zero t u hz r =>
        have HT := Lib.hid ht; have HO := Lib.hid ho; have HB := Lib.hid r
        clear ht ho r
        have HLE := Lib.hid (show k + 2 ≤ l.length from drop_len k 2 _ HT.out (by simp only [List.length_cons]; omega) (by omega))
        have hx0 : wr.cell? (x.add k) = some (.int .u8 (92)) := by have := see x HR.out HS.out.bel HT.out 0 _ rfl; rw [Nat.add_zero] at this; rw [this]; rfl
        have hx1 : wr.cell? ⟨x.block, x.off + (k + 1), none⟩ = some (.int .u8 (48)) := by have := see x HR.out HS.out.bel HT.out 1 _ rfl; rw [add_pos x (k + 1) (by omega)] at this; rw [this]; rfl
        have eq : ((92 : Int) == (q : Int)) = false := by rw [beq_eq_false_iff_ne]; omega
        have f0 : (k : Int) < (l.length : Int) := by have := HLE.out; omega
        have f1 : (k : Int) + 1 < (l.length : Int) := by have := HLE.out; omega
        have f1' : ¬ (l.length : Int) ≤ (k : Int) + 1 := by omega
        by_cases h2 : k + 2 < l.length
        · have f2 : (k : Int) + 2 < (l.length : Int) := by omega
          obtain ⟨d, t', htt⟩ := drop_more k 2 _ HT.out h2
          have htt : t = d :: t' := htt
          have HD := Lib.hid (hz d (by rw [htt]; rfl))
          have hx2 := see x HR.out HS.out.bel HT.out 2 d (by rw [htt]; rfl)
          rw [add_pos x (k + 2) (by omega)] at hx2
          obtain ⟨dd, hdd⟩ : ∃ dd : Int, dd = (d.toNat : Int) := ⟨_, rfl⟩
          rw [← hdd] at hx2
          have tt : dd < 48 ∨ (48 ≤ dd ∧ 57 < dd) := by have := HD.out; omega
          clear hdd htt hz
          rcases tt with tt | ⟨tt, tt2⟩
          · have t1 : ¬ (48 : Int) ≤ dd := by omega
            go_wp2_with (at_builtin; refine append_any _ rfl (.tmp 69) (.tmp 70) 22 29 rfl w.heap.size Tryf.underlying22 (.int .u16 0) 2 rfl (by omega) infoU (.slice A n c) (uv (o)) rfl (HS.out.own.alloc _) (wr.heap.size + 1) (some ⟨wr.heap.size, 0, none⟩) 1 1 [.int .u16 0] rfl rfl (rd_cells16 _ _) (one_u16 [0]) hml.out (le_alloc HS.out.bel.size _) ?_; intro v1 w1 o1 g1 at1; obtain ⟨A2, n2, c2, rfl, T2⟩ := HS.out.app (K := [0]) g1 o1 rfl; have S2 := Lib.hid T2; clear T2 o1 g1 at1)
            exact ⟨inv_of _ (k + 2) A2 n2 c2 (o ++ [0]) ⟨S2.out, HLE.out, _, (by rw [drop_at k 2 _ HT.out]; exact HB.out), by rw [List.append_assoc]; exact HO.out⟩ (by kernel_rfl), by simp [intOf]; omega⟩
          · have t2 : ¬ dd ≤ 57 := by omega
            go_wp2_with (at_builtin; refine append_any _ rfl (.tmp 69) (.tmp 70) 22 29 rfl w.heap.size Tryf.underlying22 (.int .u16 0) 2 rfl (by omega) infoU (.slice A n c) (uv (o)) rfl (HS.out.own.alloc _) (wr.heap.size + 1) (some ⟨wr.heap.size, 0, none⟩) 1 1 [.int .u16 0] rfl rfl (rd_cells16 _ _) (one_u16 [0]) hml.out (le_alloc HS.out.bel.size _) ?_; intro v1 w1 o1 g1 at1; obtain ⟨A2, n2, c2, rfl, T2⟩ := HS.out.app (K := [0]) g1 o1 rfl; have S2 := Lib.hid T2; clear T2 o1 g1 at1)
            exact ⟨inv_of _ (k + 2) A2 n2 c2 (o ++ [0]) ⟨S2.out, HLE.out, _, (by rw [drop_at k 2 _ HT.out]; exact HB.out), by rw [List.append_assoc]; exact HO.out⟩ (by kernel_rfl), by simp [intOf]; omega⟩
        · have f2 : ¬ (k : Int) + 2 < (l.length : Int) := by omega
          clear hz
          go_wp2_with (at_builtin; refine append_any _ rfl (.tmp 69) (.tmp 70) 22 29 rfl w.heap.size Tryf.underlying22 (.int .u16 0) 2 rfl (by omega) infoU (.slice A n c) (uv (o)) rfl (HS.out.own.alloc _) (wr.heap.size + 1) (some ⟨wr.heap.size, 0, none⟩) 1 1 [.int .u16 0] rfl rfl (rd_cells16 _ _) (one_u16 [0]) hml.out (le_alloc HS.out.bel.size _) ?_; intro v1 w1 o1 g1 at1; obtain ⟨A2, n2, c2, rfl, T2⟩ := HS.out.app (K := [0]) g1 o1 rfl; have S2 := Lib.hid T2; clear T2 o1 g1 at1)
          exact ⟨inv_of _ (k + 2) A2 n2 c2 (o ++ [0]) ⟨S2.out, HLE.out, _, (by rw [drop_at k 2 _ HT.out]; exact HB.out), by rw [List.append_assoc]; exact HO.out⟩ (by kernel_rfl), by simp [intOf]; omega⟩
      | hex2 a b t u ha hb r =>
        have HT := Lib.hid ht; have HO := Lib.hid ho; have HB := Lib.hid r
        clear ht ho r
        have HLE := Lib.hid (show k + 4 ≤ l.length from drop_len k 4 _ HT.out (by simp only [List.length_cons]; omega) (by omega))
        obtain ⟨pa, hpa⟩ : ∃ p : Int, p = ((Esq.hx a).toNat : Int) := ⟨_, rfl⟩
        have Ha : Hid (∀ w, Calls Tryf.prog 11 #[.int .u8 pa] w fun e w' => e = .returned (.int .i64 ((a : Nat) : Int)) ∧ w = w') := Lib.hid (fun w => by rw [hpa]; exact hex11 _ (by omega) w)
        obtain ⟨pb, hpb⟩ : ∃ p : Int, p = ((Esq.hx b).toNat : Int) := ⟨_, rfl⟩
        have Hb : Hid (∀ w, Calls Tryf.prog 11 #[.int .u8 pb] w fun e w' => e = .returned (.int .i64 ((b : Nat) : Int)) ∧ w = w') := Lib.hid (fun w => by rw [hpb]; exact hex11 _ (by omega) w)
        have hx0 : wr.cell? (x.add k) = some (.int .u8 (92)) := by have := see x HR.out HS.out.bel HT.out 0 _ rfl; rw [Nat.add_zero] at this; rw [this]; rfl
        have hx1 : wr.cell? ⟨x.block, x.off + (k + 1), none⟩ = some (.int .u8 (120)) := by have := see x HR.out HS.out.bel HT.out 1 _ rfl; rw [add_pos x (k + 1) (by omega)] at this; rw [this]; rfl
        have hx2 : wr.cell? ⟨x.block, x.off + (k + 2), none⟩ = some (.int .u8 (pa)) := by have := see x HR.out HS.out.bel HT.out 2 _ rfl; rw [add_pos x (k + 2) (by omega)] at this; rw [this]; rw [hpa]
        have hx3 : wr.cell? ⟨x.block, x.off + (k + 3), none⟩ = some (.int .u8 (pb)) := by have := see x HR.out HS.out.bel HT.out 3 _ rfl; rw [add_pos x (k + 3) (by omega)] at this; rw [this]; rw [hpb]
        have eq : ((92 : Int) == (q : Int)) = false := by rw [beq_eq_false_iff_ne]; omega
        have f0 : (k : Int) < (l.length : Int) := by have := HLE.out; omega
        have f1 : (k : Int) + 1 < (l.length : Int) := by have := HLE.out; omega
        have f2 : (k : Int) + 2 < (l.length : Int) := by have := HLE.out; omega
        have f3 : (k : Int) + 3 < (l.length : Int) := by have := HLE.out; omega
        have f1' : ¬ (l.length : Int) ≤ (k : Int) + 1 := by omega
        have f3' : ¬ (l.length : Int) ≤ (k : Int) + 3 := by omega
        have s1 : (a : Int) < 16 := by omega
        have s2 : (b : Int) < 16 := by omega
        obtain ⟨R, hR⟩ : ∃ R : Int, (a : Int) * 16 + (b : Int) = R := ⟨_, rfl⟩
        have HRV := Lib.hid (show R = ((a * 16 + b : Nat) : Int) by omega)
        have r1 : 0 ≤ R := by omega
        have r2 : R < 256 := by omega
        clear hpa hpb
        go_wp2_with (first | (go_at_call 11; first | ((with_reducible refine (Ha.out _).mono ?_); rintro e w9 ⟨rfl, rfl⟩) | ((with_reducible refine (Hb.out _).mono ?_); rintro e w9 ⟨rfl, rfl⟩)) | (at_builtin; refine append_any _ rfl (.tmp 98) (.tmp 104) 22 29 rfl w.heap.size Tryf.underlying22 (.int .u16 0) 2 rfl (by omega) infoU (.slice A n c) (uv (o)) rfl (HS.out.own.alloc _) (wr.heap.size + 1) (some ⟨wr.heap.size, 0, none⟩) 1 1 [.int .u16 R] rfl rfl (rd_cells16 _ _) (one_u16 [R]) hml.out (le_alloc HS.out.bel.size _) ?_; intro v1 w1 o1 g1 at1; obtain ⟨A2, n2, c2, rfl, T2⟩ := HS.out.app (K := [a * 16 + b]) g1 o1 (by rw [HRV.out]; rfl); have S2 := Lib.hid T2; clear T2 o1 g1 at1) | fail)
        exact ⟨inv_of _ (k + 4) A2 n2 c2 (o ++ [a * 16 + b]) ⟨S2.out, HLE.out, _, (by rw [drop_at k 4 _ HT.out]; exact HB.out), by rw [List.append_assoc]; exact HO.out⟩ (by kernel_rfl), by simp [intOf]; omega⟩
      | hex4 cc t u hc r =>
        have HT := Lib.hid ht; have HO := Lib.hid ho; have HB := Lib.hid r
        clear ht ho r
        have HLE := Lib.hid (show k + 6 ≤ l.length from drop_len k 6 _ HT.out (by simp only [List.length_cons]; omega) (by omega))
        have hx0 : wr.cell? (x.add k) = some (.int .u8 (92)) := by have := see x HR.out HS.out.bel HT.out 0 _ rfl; rw [Nat.add_zero] at this; rw [this]; rfl
        have hx1 : wr.cell? ⟨x.block, x.off + (k + 1), none⟩ = some (.int .u8 (117)) := by have := see x HR.out HS.out.bel HT.out 1 _ rfl; rw [add_pos x (k + 1) (by omega)] at this; rw [this]; rfl
        have eq : ((92 : Int) == (q : Int)) = false := by rw [beq_eq_false_iff_ne]; omega
        have f0 : (k : Int) < (l.length : Int) := by have := HLE.out; omega
        have f1 : (k : Int) + 1 < (l.length : Int) := by have := HLE.out; omega
        have f1' : ¬ (l.length : Int) ≤ (k : Int) + 1 := by omega
        have f5' : ¬ (l.length : Int) ≤ (k : Int) + 5 := by have := HLE.out; omega
        have DG : Hid (∀ j, 2 ≤ j → j < 6 → ∃ (p : Int) (d : Nat), wr.cell? (x.add (k + j)) = some (.int .u8 p) ∧ (∀ w, Calls Tryf.prog 11 #[.int .u8 p] w fun e w' => e = .returned (.int .i64 (d : Int)) ∧ w = w') ∧ d < 16 ∧ vvOf cc j * 16 + d = vvOf cc (j + 1) ∧ vvOf cc (j + 1) ≤ 65535) := Lib.hid (fun j h2 h6 => by
          obtain rfl | rfl | rfl | rfl : j = 2 ∨ j = 3 ∨ j = 4 ∨ j = 5 := by omega
          · exact ⟨_, cc / 4096, see x HR.out HS.out.bel HT.out 2 _ rfl, fun w => hex11 _ (by omega) w, by omega, by show 0 * 16 + cc / 4096 = cc / 4096; omega, by show cc / 4096 ≤ 65535; omega⟩
          · exact ⟨_, cc / 256 % 16, see x HR.out HS.out.bel HT.out 3 _ rfl, fun w => hex11 _ (by omega) w, by omega, by show cc / 4096 * 16 + cc / 256 % 16 = cc / 256; omega, by show cc / 256 ≤ 65535; omega⟩
          · exact ⟨_, cc / 16 % 16, see x HR.out HS.out.bel HT.out 4 _ rfl, fun w => hex11 _ (by omega) w, by omega, by show cc / 256 * 16 + cc / 16 % 16 = cc / 16; omega, by show cc / 16 ≤ 65535; omega⟩
          · exact ⟨_, cc % 16, see x HR.out HS.out.bel HT.out 5 _ rfl, fun w => hex11 _ (by omega) w, by omega, by show cc / 16 * 16 + cc % 16 = cc; omega, by show cc ≤ 65535; omega⟩)
        have HCC := Lib.hid hc
        clear hc
        go_wp2_with (fail)
        clear hx0 hx1
        refine wp_loop (Inv2 w wr x c1 l q k A n c (vvOf cc)) (fun a' _ => 6 - (intOf (a'.tmps.getD 14 undef)).toNat) ?_ ?_
        · exact inv2_of _ 2 0 (by omega) (by omega) rfl (by kernel_rfl)
        · rintro a' w' ⟨rfl, j, V, u, hj2, hj6, hV, rfl⟩
          by_cases hj : j < 6
          · obtain ⟨p, d, hcp, hcall, hd, hvv, hvl⟩ := DG.out j hj2 hj
            have HCALL := Lib.hid hcall
            obtain ⟨V', hV'⟩ : ∃ V' : Int, V * 16 + (d : Int) = V' := ⟨_, rfl⟩
            have HV' := Lib.hid (show V' = ((vvOf cc (j + 1) : Nat) : Int) by omega)
            have b1 : (k : Int) + (j : Int) < (l.length : Int) := by have := HLE.out; omega
            have b2 : (j : Int) < 6 := by omega
            have b3 : V < 65536 := by omega
            have b4 : 0 ≤ V := by omega
            have b5 : V' ≤ 65535 := by omega
            have b6 : 0 ≤ V' := by omega
            have b7 : (d : Int) < 16 := by omega
            clear hcall hV hvv hvl
            go_wp2_with (first | (go_at_call 11; (with_reducible refine (HCALL.out _).mono ?_); rintro e w9 ⟨rfl, rfl⟩) | fail)
            exact ⟨inv2_of _ (j + 1) V' (by omega) (by omega) HV'.out (by kernel_rfl), by simp [intOf]; omega⟩
          · obtain rfl : j = 6 := by omega
            have HV' := Lib.hid (show V = (cc : Int) from hV)
            have b3 : V ≤ 65535 := by have := HCC.out; have := HV'.out; omega
            have b4 : 0 ≤ V := by have := HV'.out; omega
            clear hV hj2 hj6 hj DG
            go_wp2_with (at_builtin; refine append_any _ rfl (.tmp 131) (.tmp 134) 22 29 rfl w.heap.size Tryf.underlying22 (.int .u16 0) 2 rfl (by omega) infoU (.slice A n c) (uv (o)) rfl (HS.out.own.alloc _) (wr.heap.size + 1) (some ⟨wr.heap.size, 0, none⟩) 1 1 [.int .u16 V] rfl rfl (rd_cells16 _ _) (one_u16 [V]) hml.out (le_alloc HS.out.bel.size _) ?_; intro v1 w1 o1 g1 at1; obtain ⟨A2, n2, c2, rfl, T2⟩ := HS.out.app (K := [cc]) g1 o1 (by rw [HV'.out]; rfl); have S2 := Lib.hid T2; clear T2 o1 g1 at1)
            exact ⟨inv_of _ (k + 6) A2 n2 c2 (o ++ [cc]) ⟨S2.out, HLE.out, _, (by rw [drop_at k 6 _ HT.out]; exact HB.out), by rw [List.append_assoc]; exact HO.out⟩ (by kernel_rfl), by simp [intOf]; omega⟩
      | raw ch t u h1 h2 h3 h4 h5 h6 r =>
        have HT := Lib.hid ht; have HO := Lib.hid ho; have HB := Lib.hid r
        clear ht ho r
        have HLE := Lib.hid (show k + 1 ≤ l.length from drop_len k 1 _ HT.out (by simp only [List.length_cons]; omega) (by omega))
        have f0 : (k : Int) < (l.length : Int) := by have := HLE.out; omega
        by_cases h10 : ch.toNat = 10
        · have hq96 := h5 h10
          have e10 : ((10 : Int) == (q : Int)) = false := by rw [beq_eq_false_iff_ne]; omega
          have e96 : ((q : Int) != 96) = false := by rw [bne_eq_false_iff_eq]; omega
          have e96' : ((q : Int) == 96) = true := by rw [beq_iff_eq]; omega
          have HBV := Lib.hid (show (10 : Int) = (ch.toNat : Int) by omega)
          have hx0 : wr.cell? (x.add k) = some (.int .u8 (10)) := by have := see x HR.out HS.out.bel HT.out 0 _ rfl; rw [Nat.add_zero] at this; rw [this]; rw [← HBV.out]
          clear h1 h2 h3 h4 h5 h6 h10 hq96
          go_wp2_with (at_builtin; refine append_any _ rfl (.tmp 217) (.tmp 220) 22 29 rfl w.heap.size Tryf.underlying22 (.int .u16 0) 2 rfl (by omega) infoU (.slice A n c) (uv (o)) rfl (HS.out.own.alloc _) (wr.heap.size + 1) (some ⟨wr.heap.size, 0, none⟩) 1 1 [.int .u16 10] rfl rfl (rd_cells16 _ _) (one_u16 [10]) hml.out (le_alloc HS.out.bel.size _) ?_; intro v1 w1 o1 g1 at1; obtain ⟨A2, n2, c2, rfl, T2⟩ := HS.out.app (K := [ch.toNat]) g1 o1 (by rw [HBV.out]; rfl); have S2 := Lib.hid T2; clear T2 o1 g1 at1)
          exact ⟨inv_of _ (k + 1) A2 n2 c2 (o ++ [ch.toNat]) ⟨S2.out, HLE.out, _, (by rw [drop_at k 1 _ HT.out]; exact HB.out), by rw [List.append_assoc]; exact HO.out⟩ (by kernel_rfl), by simp [intOf]; omega⟩
        · obtain ⟨b, hb⟩ : ∃ b : Int, b = (ch.toNat : Int) := ⟨_, rfl⟩
          have hx0 : wr.cell? (x.add k) = some (.int .u8 (b)) := by have := see x HR.out HS.out.bel HT.out 0 _ rfl; rw [Nat.add_zero] at this; rw [this]; rw [hb]
          have g1 : b < 128 := by omega
          have g0 : 0 ≤ b := by omega
          have eq : (b == (q : Int)) = false := by rw [beq_eq_false_iff_ne]; omega
          have e92 : (b == 92) = false := by rw [beq_eq_false_iff_ne]; omega
          have e13 : (b == 13) = false := by rw [beq_eq_false_iff_ne]; omega
          have e10 : (b == 10) = false := by rw [beq_eq_false_iff_ne]; omega
          have HBV := Lib.hid hb
          by_cases hq96 : q = 96
          · have e96 : ((q : Int) == 96) = true := by rw [beq_iff_eq]; omega
            by_cases h36 : ch.toNat = 36
            · have e36 : (b == 36) = true := by rw [beq_iff_eq]; omega
              by_cases hd1 : k + 1 < l.length
              · have f1 : (k : Int) + 1 < (l.length : Int) := by omega
                obtain ⟨d, t', htt⟩ := drop_more k 1 _ HT.out hd1
                have htt : t = d :: t' := htt
                have hd123 : d.toNat ≠ 123 := fun h => h6 hq96 h36 (by rw [htt]; show some d = some 123; rw [show d = 123 from UInt8.toNat_inj.1 h])
                have hx1 := see x HR.out HS.out.bel HT.out 1 d (by rw [htt]; rfl)
                rw [add_pos x (k + 1) (by omega)] at hx1
                obtain ⟨dd, hdd⟩ : ∃ dd : Int, dd = (d.toNat : Int) := ⟨_, rfl⟩
                rw [← hdd] at hx1
                have e123 : (dd == 123) = false := by rw [beq_eq_false_iff_ne]; omega
                clear h1 h2 h3 h4 h5 h6 h10 hq96 hb h36 hdd hd123 htt
                go_wp2_with (at_builtin; refine append_any _ rfl (.tmp 217) (.tmp 220) 22 29 rfl w.heap.size Tryf.underlying22 (.int .u16 0) 2 rfl (by omega) infoU (.slice A n c) (uv (o)) rfl (HS.out.own.alloc _) (wr.heap.size + 1) (some ⟨wr.heap.size, 0, none⟩) 1 1 [.int .u16 b] rfl rfl (rd_cells16 _ _) (one_u16 [b]) hml.out (le_alloc HS.out.bel.size _) ?_; intro v1 w1 o1 g1 at1; obtain ⟨A2, n2, c2, rfl, T2⟩ := HS.out.app (K := [ch.toNat]) g1 o1 (by rw [HBV.out]; rfl); have S2 := Lib.hid T2; clear T2 o1 g1 at1)
                exact ⟨inv_of _ (k + 1) A2 n2 c2 (o ++ [ch.toNat]) ⟨S2.out, HLE.out, _, (by rw [drop_at k 1 _ HT.out]; exact HB.out), by rw [List.append_assoc]; exact HO.out⟩ (by kernel_rfl), by simp [intOf]; omega⟩
              · have f1 : ¬ (k : Int) + 1 < (l.length : Int) := by omega
                clear h1 h2 h3 h4 h5 h6 h10 hq96 hb h36
                go_wp2_with (at_builtin; refine append_any _ rfl (.tmp 217) (.tmp 220) 22 29 rfl w.heap.size Tryf.underlying22 (.int .u16 0) 2 rfl (by omega) infoU (.slice A n c) (uv (o)) rfl (HS.out.own.alloc _) (wr.heap.size + 1) (some ⟨wr.heap.size, 0, none⟩) 1 1 [.int .u16 b] rfl rfl (rd_cells16 _ _) (one_u16 [b]) hml.out (le_alloc HS.out.bel.size _) ?_; intro v1 w1 o1 g1 at1; obtain ⟨A2, n2, c2, rfl, T2⟩ := HS.out.app (K := [ch.toNat]) g1 o1 (by rw [HBV.out]; rfl); have S2 := Lib.hid T2; clear T2 o1 g1 at1)
                exact ⟨inv_of _ (k + 1) A2 n2 c2 (o ++ [ch.toNat]) ⟨S2.out, HLE.out, _, (by rw [drop_at k 1 _ HT.out]; exact HB.out), by rw [List.append_assoc]; exact HO.out⟩ (by kernel_rfl), by simp [intOf]; omega⟩
            · have e36 : (b == 36) = false := by rw [beq_eq_false_iff_ne]; omega
              clear h1 h2 h3 h4 h5 h6 h10 hq96 hb h36
              go_wp2_with (at_builtin; refine append_any _ rfl (.tmp 217) (.tmp 220) 22 29 rfl w.heap.size Tryf.underlying22 (.int .u16 0) 2 rfl (by omega) infoU (.slice A n c) (uv (o)) rfl (HS.out.own.alloc _) (wr.heap.size + 1) (some ⟨wr.heap.size, 0, none⟩) 1 1 [.int .u16 b] rfl rfl (rd_cells16 _ _) (one_u16 [b]) hml.out (le_alloc HS.out.bel.size _) ?_; intro v1 w1 o1 g1 at1; obtain ⟨A2, n2, c2, rfl, T2⟩ := HS.out.app (K := [ch.toNat]) g1 o1 (by rw [HBV.out]; rfl); have S2 := Lib.hid T2; clear T2 o1 g1 at1)
              exact ⟨inv_of _ (k + 1) A2 n2 c2 (o ++ [ch.toNat]) ⟨S2.out, HLE.out, _, (by rw [drop_at k 1 _ HT.out]; exact HB.out), by rw [List.append_assoc]; exact HO.out⟩ (by kernel_rfl), by simp [intOf]; omega⟩
          · have e96 : ((q : Int) == 96) = false := by rw [beq_eq_false_iff_ne]; omega
            clear h1 h2 h3 h4 h5 h6 h10 hq96 hb
            go_wp2_with (at_builtin; refine append_any _ rfl (.tmp 217) (.tmp 220) 22 29 rfl w.heap.size Tryf.underlying22 (.int .u16 0) 2 rfl (by omega) infoU (.slice A n c) (uv (o)) rfl (HS.out.own.alloc _) (wr.heap.size + 1) (some ⟨wr.heap.size, 0, none⟩) 1 1 [.int .u16 b] rfl rfl (rd_cells16 _ _) (one_u16 [b]) hml.out (le_alloc HS.out.bel.size _) ?_; intro v1 w1 o1 g1 at1; obtain ⟨A2, n2, c2, rfl, T2⟩ := HS.out.app (K := [ch.toNat]) g1 o1 (by rw [HBV.out]; rfl); have S2 := Lib.hid T2; clear T2 o1 g1 at1)
            exact ⟨inv_of _ (k + 1) A2 n2 c2 (o ++ [ch.toNat]) ⟨S2.out, HLE.out, _, (by rw [drop_at k 1 _ HT.out]; exact HB.out), by rw [List.append_assoc]; exact HO.out⟩ (by kernel_rfl), by simp [intOf]; omega⟩
      | u2 a b t u h1 h2 h3 r =>
        have HT := Lib.hid ht; have HO := Lib.hid ho; have HB := Lib.hid r
        clear ht ho r
        have HLE := Lib.hid (show k + 2 ≤ l.length from drop_len k 2 _ HT.out (by simp only [List.length_cons]; omega) (by omega))
        have f0 : (k : Int) < (l.length : Int) := by have := HLE.out; omega
        have hx0 : wr.cell? (x.add k) = some (.int .u8 (((192 + a : Nat) : Int))) := by have := see x HR.out HS.out.bel HT.out 0 _ rfl; rw [Nat.add_zero] at this; rw [this]; rw [nat8 _ (by omega)]
        have hx1 : wr.cell? ⟨x.block, x.off + (k + 1), none⟩ = some (.int .u8 (((128 + b : Nat) : Int))) := by have := see x HR.out HS.out.bel HT.out 1 _ rfl; rw [add_pos x (k + 1) (by omega)] at this; rw [this]; rw [nat8 _ (by omega)]
        have H12 := Lib.hid (dec2 wr x l.length c1 k a b h1 h2 h3 hx0 hx1 (by have := HLE.out; omega) hl)
        obtain ⟨z, hz⟩ : ∃ z : Int, z = ((192 + a : Nat) : Int) := ⟨_, rfl⟩
        rw [← hz] at hx0
        have e128 : ¬ z < 128 := by omega
        have eq : (z == (q : Int)) = false := by rw [beq_eq_false_iff_ne]; omega
        have e92 : (z == 92) = false := by rw [beq_eq_false_iff_ne]; omega
        have e13 : (z == 13) = false := by rw [beq_eq_false_iff_ne]; omega
        have e10 : (z == 10) = false := by rw [beq_eq_false_iff_ne]; omega
        have e36 : (z == 36) = false := by rw [beq_eq_false_iff_ne]; omega
        obtain ⟨R, hR⟩ : ∃ R : Nat, R = a * 64 + b := ⟨_, rfl⟩
        rw [← hR] at H12
        clear hx1 hz
        have hRb : (R : Int) ≤ 65535 := by omega
        have hRl : ¬ (65535 : Int) < (R : Int) := by omega
        have HRV := Lib.hid hR
        clear hR
        by_cases hq96 : q = 96
        · have e96 : ((q : Int) == 96) = true := by rw [beq_iff_eq]; omega
          clear hq96
          go_wp2_with (first | (go_at_call 12; refine (H12.out).mono ?_; rintro e w9 ⟨rfl, kk, rfl⟩; have HS1 := Lib.hid (HS.out.drewN kk)) | (at_builtin; refine append_any _ rfl (.tmp 251) (.tmp 254) 22 29 rfl w.heap.size Tryf.underlying22 (.int .u16 0) 2 rfl (by omega) infoU (.slice A n c) (uv (o)) rfl (HS1.out.own.alloc _) ((wr.drewN kk).heap.size + 1) (some ⟨(wr.drewN kk).heap.size, 0, none⟩) 1 1 [.int .u16 (R : Int)] rfl rfl (rd_cells16 _ _) (one_u16 [(R : Int)]) hml.out (le_alloc HS1.out.bel.size _) ?_; intro v1 w1 o1 g1 at1; obtain ⟨A2, n2, c2, rfl, T2⟩ := HS1.out.app (K := [R]) g1 o1 rfl; have S2 := Lib.hid T2; clear T2 o1 g1 at1) | fail)
          exact ⟨inv_of _ (k + 2) A2 n2 c2 (o ++ [R]) ⟨S2.out, HLE.out, _, (by rw [drop_at k 2 _ HT.out]; exact HB.out), by rw [List.append_assoc]; exact (HRV.out ▸ HO.out)⟩ (by kernel_rfl), by simp [intOf]; omega⟩
        · have e96 : ((q : Int) == 96) = false := by rw [beq_eq_false_iff_ne]; omega
          clear hq96
          go_wp2_with (first | (go_at_call 12; refine (H12.out).mono ?_; rintro e w9 ⟨rfl, kk, rfl⟩; have HS1 := Lib.hid (HS.out.drewN kk)) | (at_builtin; refine append_any _ rfl (.tmp 251) (.tmp 254) 22 29 rfl w.heap.size Tryf.underlying22 (.int .u16 0) 2 rfl (by omega) infoU (.slice A n c) (uv (o)) rfl (HS1.out.own.alloc _) ((wr.drewN kk).heap.size + 1) (some ⟨(wr.drewN kk).heap.size, 0, none⟩) 1 1 [.int .u16 (R : Int)] rfl rfl (rd_cells16 _ _) (one_u16 [(R : Int)]) hml.out (le_alloc HS1.out.bel.size _) ?_; intro v1 w1 o1 g1 at1; obtain ⟨A2, n2, c2, rfl, T2⟩ := HS1.out.app (K := [R]) g1 o1 rfl; have S2 := Lib.hid T2; clear T2 o1 g1 at1) | fail)
          exact ⟨inv_of _ (k + 2) A2 n2 c2 (o ++ [R]) ⟨S2.out, HLE.out, _, (by rw [drop_at k 2 _ HT.out]; exact HB.out), by rw [List.append_assoc]; exact (HRV.out ▸ HO.out)⟩ (by kernel_rfl), by simp [intOf]; omega⟩
      | u3 a b d t u h1 h2 h3 h4 h5 r =>
        have HT := Lib.hid ht; have HO := Lib.hid ho; have HB := Lib.hid r
        clear ht ho r
        have HLE := Lib.hid (show k + 3 ≤ l.length from drop_len k 3 _ HT.out (by simp only [List.length_cons]; omega) (by omega))
        have f0 : (k : Int) < (l.length : Int) := by have := HLE.out; omega
        have hx0 : wr.cell? (x.add k) = some (.int .u8 (((224 + a : Nat) : Int))) := by have := see x HR.out HS.out.bel HT.out 0 _ rfl; rw [Nat.add_zero] at this; rw [this]; rw [nat8 _ (by omega)]
        have hx1 : wr.cell? ⟨x.block, x.off + (k + 1), none⟩ = some (.int .u8 (((128 + b : Nat) : Int))) := by have := see x HR.out HS.out.bel HT.out 1 _ rfl; rw [add_pos x (k + 1) (by omega)] at this; rw [this]; rw [nat8 _ (by omega)]
        have hx2 : wr.cell? ⟨x.block, x.off + (k + 2), none⟩ = some (.int .u8 (((128 + d : Nat) : Int))) := by have := see x HR.out HS.out.bel HT.out 2 _ rfl; rw [add_pos x (k + 2) (by omega)] at this; rw [this]; rw [nat8 _ (by omega)]
        have H12 := Lib.hid (dec3 wr x l.length c1 k a b d h1 h2 h3 h4 h5 hx0 hx1 hx2 (by have := HLE.out; omega) hl)
        obtain ⟨z, hz⟩ : ∃ z : Int, z = ((224 + a : Nat) : Int) := ⟨_, rfl⟩
        rw [← hz] at hx0
        have e128 : ¬ z < 128 := by omega
        have eq : (z == (q : Int)) = false := by rw [beq_eq_false_iff_ne]; omega
        have e92 : (z == 92) = false := by rw [beq_eq_false_iff_ne]; omega
        have e13 : (z == 13) = false := by rw [beq_eq_false_iff_ne]; omega
        have e10 : (z == 10) = false := by rw [beq_eq_false_iff_ne]; omega
        have e36 : (z == 36) = false := by rw [beq_eq_false_iff_ne]; omega
        obtain ⟨R, hR⟩ : ∃ R : Nat, R = a * 4096 + b * 64 + d := ⟨_, rfl⟩
        rw [← hR] at H12 h4 h5
        clear hx1 hx2 hz
        have hRb : (R : Int) ≤ 65535 := by omega
        have hRl : ¬ (65535 : Int) < (R : Int) := by omega
        have HRV := Lib.hid hR
        clear hR
        by_cases hq96 : q = 96
        · have e96 : ((q : Int) == 96) = true := by rw [beq_iff_eq]; omega
          clear hq96
          go_wp2_with (first | (go_at_call 12; refine (H12.out).mono ?_; rintro e w9 ⟨rfl, kk, rfl⟩; have HS1 := Lib.hid (HS.out.drewN kk)) | (at_builtin; refine append_any _ rfl (.tmp 251) (.tmp 254) 22 29 rfl w.heap.size Tryf.underlying22 (.int .u16 0) 2 rfl (by omega) infoU (.slice A n c) (uv (o)) rfl (HS1.out.own.alloc _) ((wr.drewN kk).heap.size + 1) (some ⟨(wr.drewN kk).heap.size, 0, none⟩) 1 1 [.int .u16 (R : Int)] rfl rfl (rd_cells16 _ _) (one_u16 [(R : Int)]) hml.out (le_alloc HS1.out.bel.size _) ?_; intro v1 w1 o1 g1 at1; obtain ⟨A2, n2, c2, rfl, T2⟩ := HS1.out.app (K := [R]) g1 o1 rfl; have S2 := Lib.hid T2; clear T2 o1 g1 at1) | fail)
          exact ⟨inv_of _ (k + 3) A2 n2 c2 (o ++ [R]) ⟨S2.out, HLE.out, _, (by rw [drop_at k 3 _ HT.out]; exact HB.out), by rw [List.append_assoc]; exact (HRV.out ▸ HO.out)⟩ (by kernel_rfl), by simp [intOf]; omega⟩
        · have e96 : ((q : Int) == 96) = false := by rw [beq_eq_false_iff_ne]; omega
          clear hq96
          go_wp2_with (first | (go_at_call 12; refine (H12.out).mono ?_; rintro e w9 ⟨rfl, kk, rfl⟩; have HS1 := Lib.hid (HS.out.drewN kk)) | (at_builtin; refine append_any _ rfl (.tmp 251) (.tmp 254) 22 29 rfl w.heap.size Tryf.underlying22 (.int .u16 0) 2 rfl (by omega) infoU (.slice A n c) (uv (o)) rfl (HS1.out.own.alloc _) ((wr.drewN kk).heap.size + 1) (some ⟨(wr.drewN kk).heap.size, 0, none⟩) 1 1 [.int .u16 (R : Int)] rfl rfl (rd_cells16 _ _) (one_u16 [(R : Int)]) hml.out (le_alloc HS1.out.bel.size _) ?_; intro v1 w1 o1 g1 at1; obtain ⟨A2, n2, c2, rfl, T2⟩ := HS1.out.app (K := [R]) g1 o1 rfl; have S2 := Lib.hid T2; clear T2 o1 g1 at1) | fail)
          exact ⟨inv_of _ (k + 3) A2 n2 c2 (o ++ [R]) ⟨S2.out, HLE.out, _, (by rw [drop_at k 3 _ HT.out]; exact HB.out), by rw [List.append_assoc]; exact (HRV.out ▸ HO.out)⟩ (by kernel_rfl), by simp [intOf]; omega⟩
      | u4 a b d d4 y1 y2 t u h1 h2 h3 h4 h5 h6 e1 e2 r =>
        have HT := Lib.hid ht; have HO := Lib.hid ho; have HB := Lib.hid r
        clear ht ho r
        have HLE := Lib.hid (show k + 4 ≤ l.length from drop_len k 4 _ HT.out (by simp only [List.length_cons]; omega) (by omega))
        have f0 : (k : Int) < (l.length : Int) := by have := HLE.out; omega
        have hx0 : wr.cell? (x.add k) = some (.int .u8 (((240 + a : Nat) : Int))) := by have := see x HR.out HS.out.bel HT.out 0 _ rfl; rw [Nat.add_zero] at this; rw [this]; rw [nat8 _ (by omega)]
        have hx1 : wr.cell? ⟨x.block, x.off + (k + 1), none⟩ = some (.int .u8 (((128 + b : Nat) : Int))) := by have := see x HR.out HS.out.bel HT.out 1 _ rfl; rw [add_pos x (k + 1) (by omega)] at this; rw [this]; rw [nat8 _ (by omega)]
        have hx2 : wr.cell? ⟨x.block, x.off + (k + 2), none⟩ = some (.int .u8 (((128 + d : Nat) : Int))) := by have := see x HR.out HS.out.bel HT.out 2 _ rfl; rw [add_pos x (k + 2) (by omega)] at this; rw [this]; rw [nat8 _ (by omega)]
        have hx3 : wr.cell? ⟨x.block, x.off + (k + 3), none⟩ = some (.int .u8 (((128 + d4 : Nat) : Int))) := by have := see x HR.out HS.out.bel HT.out 3 _ rfl; rw [add_pos x (k + 3) (by omega)] at this; rw [this]; rw [nat8 _ (by omega)]
        have H12 := Lib.hid (dec4 wr x l.length c1 k a b d d4 h1 h2 h3 h4 h5 h6 hx0 hx1 hx2 hx3 (by have := HLE.out; omega) hl)
        obtain ⟨z, hz⟩ : ∃ z : Int, z = ((240 + a : Nat) : Int) := ⟨_, rfl⟩
        rw [← hz] at hx0
        have e128 : ¬ z < 128 := by omega
        have eq : (z == (q : Int)) = false := by rw [beq_eq_false_iff_ne]; omega
        have e92 : (z == 92) = false := by rw [beq_eq_false_iff_ne]; omega
        have e13 : (z == 13) = false := by rw [beq_eq_false_iff_ne]; omega
        have e10 : (z == 10) = false := by rw [beq_eq_false_iff_ne]; omega
        have e36 : (z == 36) = false := by rw [beq_eq_false_iff_ne]; omega
        obtain ⟨R, hR⟩ : ∃ R : Nat, R = a * 262144 + b * 4096 + d * 64 + d4 := ⟨_, rfl⟩
        rw [← hR] at H12 h5 h6 e1 e2
        clear hx1 hx2 hx3 hz
        clear hR
        obtain ⟨D, hD⟩ : ∃ D : Nat, D = R - 65536 := ⟨_, rfl⟩
        rw [← hD] at e1 e2
        have hsub : (R : Int) - 65536 = (D : Int) := by omega
        obtain ⟨E, hE⟩ : ∃ E : Int, (D : Int) / 1024 = E := ⟨_, rfl⟩
        obtain ⟨G, hG⟩ : ∃ G : Int, bits .and .i64 (D : Int) 1023 = G := ⟨_, rfl⟩
        have hG' : G = ((D % 1024 : Nat) : Int) := by
          have h := i64_and D 1023 (by omega) (by omega)
          rw [nat_mask10] at h
          rw [← hG]; exact h
        have HV1 := Lib.hid (show (55296 + E : Int) = (y1 : Int) by omega)
        have HV2 := Lib.hid (show (56320 + G : Int) = (y2 : Int) by omega)
        have g1 : 0 ≤ E := by omega
        have g2 : E ≤ 1023 := by omega
        have g3 : 0 ≤ G := by omega
        have g4 : G ≤ 1023 := by omega
        have g5 : (R : Int) ≤ 1114111 := by omega
        have g6 : (D : Int) ≤ 1048575 := by omega
        have hRl : (65535 : Int) < (R : Int) := by omega
        clear e1 e2 hD hG' h5 h6
        by_cases hq96 : q = 96
        · have e96 : ((q : Int) == 96) = true := by rw [beq_iff_eq]; omega
          clear hq96
          go_upto_region 79 with (first | (go_at_call 12; refine (H12.out).mono ?_; rintro e w9 ⟨rfl, kk, rfl⟩; have HS1 := Lib.hid (HS.out.drewN kk)) | (at_builtin; refine append_any _ rfl (.tmp 237) (.tmp 242) 22 29 rfl w.heap.size Tryf.underlying22 (.int .u16 0) 2 rfl (by omega) infoU (.slice A n c) (uv (o)) rfl (HS1.out.own.alloc _) ((wr.drewN kk).heap.size + 1) (some ⟨(wr.drewN kk).heap.size, 0, none⟩) 1 1 [.int .u16 (55296 + E)] rfl rfl (rd_cells16 _ _) (one_u16 [(55296 + E)]) hml.out (le_alloc HS1.out.bel.size _) ?_; intro v1 w1 o1 g1 at1; obtain ⟨A2, n2, c2, rfl, T2⟩ := HS1.out.app (K := [y1]) g1 o1 (by rw [HV1.out]; rfl); have S2 := Lib.hid T2; clear T2 o1 g1 at1) | fail)
          have HML1 : Hid ((uv (o ++ [y1])).length + 1 ≤ 1073741824) := Lib.hid (by have := hml2.out; rw [uv_len] at this ⊢; rw [List.length_append]; simp only [List.length_cons, List.length_nil]; omega)
          go_wp2_with (at_builtin; refine append_any _ rfl (.tmp 244) (.tmp 249) 22 29 rfl w.heap.size Tryf.underlying22 (.int .u16 0) 2 rfl (by omega) infoU (.slice A2 n2 c2) (uv (o ++ [y1])) rfl (S2.out.own.alloc _) (w1.heap.size + 1) (some ⟨w1.heap.size, 0, none⟩) 1 1 [.int .u16 (56320 + G)] rfl rfl (rd_cells16 _ _) (one_u16 [(56320 + G)]) HML1.out (le_alloc S2.out.bel.size _) ?_; intro v1 w2 o1 g1 at1; obtain ⟨A3, n3, c3, rfl, T2⟩ := S2.out.app (K := [y2]) g1 o1 (by rw [HV2.out]; rfl); have S3 := Lib.hid T2; clear T2 o1 g1 at1)
          exact ⟨inv_of _ (k + 4) A3 n3 c3 (o ++ [y1, y2]) ⟨by have := S3.out; rw [List.append_assoc] at this; exact this, HLE.out, _, (by rw [drop_at k 4 _ HT.out]; exact HB.out), by rw [List.append_assoc]; exact HO.out⟩ (by kernel_rfl), by simp [intOf]; omega⟩
        · have e96 : ((q : Int) == 96) = false := by rw [beq_eq_false_iff_ne]; omega
          clear hq96
          go_upto_region 79 with (first | (go_at_call 12; refine (H12.out).mono ?_; rintro e w9 ⟨rfl, kk, rfl⟩; have HS1 := Lib.hid (HS.out.drewN kk)) | (at_builtin; refine append_any _ rfl (.tmp 237) (.tmp 242) 22 29 rfl w.heap.size Tryf.underlying22 (.int .u16 0) 2 rfl (by omega) infoU (.slice A n c) (uv (o)) rfl (HS1.out.own.alloc _) ((wr.drewN kk).heap.size + 1) (some ⟨(wr.drewN kk).heap.size, 0, none⟩) 1 1 [.int .u16 (55296 + E)] rfl rfl (rd_cells16 _ _) (one_u16 [(55296 + E)]) hml.out (le_alloc HS1.out.bel.size _) ?_; intro v1 w1 o1 g1 at1; obtain ⟨A2, n2, c2, rfl, T2⟩ := HS1.out.app (K := [y1]) g1 o1 (by rw [HV1.out]; rfl); have S2 := Lib.hid T2; clear T2 o1 g1 at1) | fail)
          have HML1 : Hid ((uv (o ++ [y1])).length + 1 ≤ 1073741824) := Lib.hid (by have := hml2.out; rw [uv_len] at this ⊢; rw [List.length_append]; simp only [List.length_cons, List.length_nil]; omega)
          go_wp2_with (at_builtin; refine append_any _ rfl (.tmp 244) (.tmp 249) 22 29 rfl w.heap.size Tryf.underlying22 (.int .u16 0) 2 rfl (by omega) infoU (.slice A2 n2 c2) (uv (o ++ [y1])) rfl (S2.out.own.alloc _) (w1.heap.size + 1) (some ⟨w1.heap.size, 0, none⟩) 1 1 [.int .u16 (56320 + G)] rfl rfl (rd_cells16 _ _) (one_u16 [(56320 + G)]) HML1.out (le_alloc S2.out.bel.size _) ?_; intro v1 w2 o1 g1 at1; obtain ⟨A3, n3, c3, rfl, T2⟩ := S2.out.app (K := [y2]) g1 o1 (by rw [HV2.out]; rfl); have S3 := Lib.hid T2; clear T2 o1 g1 at1)
          exact ⟨inv_of _ (k + 4) A3 n3 c3 (o ++ [y1, y2]) ⟨by have := S3.out; rw [List.append_assoc] at this; exact this, HLE.out, _, (by rw [drop_at k 4 _ HT.out]; exact HB.out), by rw [List.append_assoc]; exact HO.out⟩ (by kernel_rfl), by simp [intOf]; omega⟩
    · have hkl : l.length ≤ k := by omega
      rw [List.drop_eq_nil_of_le hkl] at ht
      subst ht
      cases hb
      rw [List.append_nil] at ho
      subst ho
      have hn : n = o.length := by
        obtain ⟨A', c', e⟩ := HS.out.own.form
        injection e with _ e2 _
        rw [uv_len] at e2
        exact e2
      have D9 : Hid (Dd o w (.returned (.tuple #[.slice A n c, .bool true])) wr) := Lib.hid ⟨_, _, _, rfl, hn, HS.out.own, HS.out.bel⟩
      have f0 : ¬ (k : Int) < (l.length : Int) := by omega
      clear HS hn hml hml2 HUL
      go_wp2_with (fail)
      go_ret2
      exact D9.out
end Go.Proofs.YtpoakndmajoiaaaFmt.Dcb
