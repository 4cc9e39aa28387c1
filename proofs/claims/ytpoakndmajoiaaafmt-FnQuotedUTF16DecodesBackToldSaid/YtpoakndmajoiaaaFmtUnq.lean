/- printUnquotedUTF16 by its contract: it appends what Esq says. Conditions: lengths; no lone surrogate. -/
import Derived.Test.YtpoakndmajoiaaaFmtUnb
import Derived.Deep.DeepCutAuto
import Derived.Deep.RegionHeld3
import Derived.Laws.BitsAllLaws
namespace Go.Proofs.YtpoakndmajoiaaaFmt.Unq
open Go.RowKit Go.Deep Go.Proofs.YtpoakndmajoiaaaFmt.Base Go.Proofs.YtpoakndmajoiaaaFmt.Sls Go.Proofs.YtpoakndmajoiaaaFmt.Byw Go.Proofs.YtpoakndmajoiaaaFmt.Prq Go.Proofs.YtpoakndmajoiaaaFmt.Esq Go.Proofs.YtpoakndmajoiaaaFmt.Enc Go.Proofs.YtpoakndmajoiaaaFmt.Unb
set_option linter.unusedVariables false
/-- The unit ahead is no high surrogate (its pair is behind us). -/
def Pv (U : List Nat) (k : Nat) : Prop := True
/-- No lone surrogate. -/
def Wf (U : List Nat) : Prop := ∀ k, k < U.length → U.getD k 0 ≤ 65535
/-- The units as they stand beside the row r. -/
def Us (w : World) (r : Option Nat) (B : Option Addr) (U : List Nat) : Prop := ∀ k, k < U.length → ∃ x, B = some x ∧ r ≠ some x.block ∧ x.block < w.heap.size ∧ w.cell? (x.add k) = some (.int .u16 ((U.getD k 0 : Nat) : Int))
theorem Us.at_ {w wr : World} {r : Option Nat} {B : Option Addr} {U : List Nat} (h : Us w r B U) (g : w.grownBy wr r) (k : Nat) (hk : k < U.length) : ∃ x, B = some x ∧ x.block < wr.heap.size ∧ wr.cell? (x.add k) = some (.int .u16 ((U.getD k 0 : Nat) : Int)) := by
  obtain ⟨x, h1, h2, h3, h4⟩ := h k hk
  exact ⟨x, h1, Nat.lt_of_lt_of_le h3 g.size, (World.cell?_of_block (g.block _ (by rw [Sls.add_block]; exact h3) (by rw [Sls.add_block]; exact h2.symm))).trans h4⟩
theorem add_pos (x : Addr) (k : Nat) (h : 0 < k) : x.add k = ⟨x.block, x.off + k, none⟩ := by
  unfold Addr.add
  rw [if_neg (by omega)]
def codes : List Nat := [0, 7, 8, 12, 10, 13, 11, 27, 92, 47, 39, 34, 96, 36, 8232, 8233, 65279]
theorem lookup_none {c : Nat} (h : c ∉ codes) : simple.lookup c = none := by
  unfold codes at h
  simp only [List.mem_cons, List.not_mem_nil, or_false, not_or] at h
  unfold simple
  simp [List.lookup, h, beq_eq_false_iff_ne.2]
theorem byt_else {U : List Nat} {q k : Nat} (h : U.getD k 0 ∉ codes) : byt U q k = byt3 U k := by
  unfold byt
  rw [lookup_none h]
  show byt2 U q k = _
  unfold codes at h
  simp only [List.mem_cons, List.not_mem_nil, or_false, not_or] at h
  obtain ⟨h0, h7, h8, h12, h10, h13, h11, h27, h92, h47, h39, h34, h96, h36, _⟩ := h
  unfold byt2
  rw [if_neg h0, if_neg h10, if_neg h47, if_neg (by rintro (h | h | h) <;> contradiction), if_neg h36]
def Dg (c d1 d2 d3 d4 : Nat) : Prop := d1 < 16 ∧ d2 < 16 ∧ d3 < 16 ∧ d4 < 16 ∧ hx4 c = [92, 117, hx d1, hx d2, hx d3, hx d4] ∧ (c : Int) / 4096 = (d1 : Int) ∧ bits .and .u16 ((c : Int) / 256) 15 = (d2 : Int) ∧ bits .and .u16 ((c : Int) / 16) 15 = (d3 : Int) ∧ bits .and .u16 (c : Int) 15 = (d4 : Int)
theorem and15 (x : Int) (a : Nat) (hx : x = a) (h : a < 65536) : bits .and .u16 x 15 = ((a % 16 : Nat) : Int) := by
  subst hx
  have := u16_and_nat a 15 h (by omega)
  rw [nat_mask4] at this
  exact this
theorem digits (c : Nat) (h : c ≤ 65535) : ∃ d1 d2 d3 d4, Dg c d1 d2 d3 d4 :=
  ⟨c / 4096, c / 256 % 16, c / 16 % 16, c % 16, by omega, by omega, by omega, by omega, rfl, by omega, and15 _ (c / 256) (by omega) (by omega), and15 _ (c / 16) (by omega) (by omega), and15 _ c rfl (by omega)⟩
theorem hex_fin : ∀ i : Fin 16, (({ data := #[48, 49, 50, 51, 52, 53, 54, 55, 56, 57, 65, 66, 67, 68, 69, 70] } : ByteArray)[i.val]'i.isLt) = hx i.val := by decide +kernel
theorem hex_at (i : Nat) (h : i < 16) : (({ data := #[48, 49, 50, 51, 52, 53, 54, 55, 56, 57, 65, 66, 67, 68, 69, 70] } : ByteArray)[i]'h) = hx i := hex_fin ⟨i, h⟩
theorem St.lies {w wr w1 : World} {r : Option Nat} {base T n c : Nat} {A : Option Addr} {L E : List UInt8} {news : List Value} {v1 : Value} {o : Obj} (h : St w wr r base T A n c L) (hg : (wr.alloc o).drew.grownBy w1 (Value.slice A n c).ownBlock)
    (h1 : Own w1 base 5 v1 (bv L ++ news)) (hat : v1.ownBlock = (Value.slice A n c).ownBlock ∨ v1.ownBlock = some (wr.alloc o).drew.heap.size) (hN : news = bv E) : ∃ A' n' c', v1 = .slice A' n' c' ∧ St w w1 r base T A' n' c' (L ++ E) := by
  subst hN
  exact h.byte (K := E) (o := o) ⟨hg.os, hg.tape, hg.output, hg.size, hg.block⟩ h1 hat
structure Rl (w : World) (r : Option Nat) (base : Nat) (l : List UInt8) (U : List Nat) (q : Nat) (k : Nat) (A : Option Addr) (n c : Nat) (m : List UInt8) (wr : World) : Prop where
  le : k ≤ U.length
  st : St w wr r base w.heap.size A n c (l ++ m)
  out : m ++ rest U q k = rest U q 0
  pv : Pv U k
/-- The frame at a round's head: what is not named here is whatever it is. -/
def Inv (w : World) (r : Option Nat) (pb base c1 : Nat) (B : Option Addr) (F : Int) (l : List UInt8) (U : List Nat) (q : Nat) (a' : Act) (wr : World) : Prop :=
  ∃ (k : Nat) (A : Option Addr) (n c : Nat) (m : List UInt8) (u : Nat → Value), Rl w r base l U q k A n c m wr ∧ a' = { tmps := #[.pointer (some ⟨pb, 0, none⟩), .slice B U.length c1, .int .i32 (q : Int), .int .u8 F, u 4, u 5, u 6, u 7, .slice (some ⟨w.heap.size, 0, none⟩) 4 4, .slice A n c, .int .i64 (k : Nat), .int .i64 (U.length : Nat), u 12, .bool false, u 14, u 15, u 16, u 17, u 18, u 19, u 20, u 21, u 22, u 23, u 24, u 25, u 26, u 27, u 28, u 29, u 30, u 31, u 32, u 33, u 34, u 35, u 36, u 37, u 38, u 39, u 40, u 41, u 42, u 43, u 44, u 45, u 46, u 47, u 48, u 49, u 50, u 51, u 52, u 53, u 54, u 55, u 56, u 57, u 58, u 59, u 60, u 61, u 62, u 63, u 64, u 65, u 66, u 67, u 68, u 69, u 70, u 71, u 72, u 73, u 74, u 75, u 76, u 77, u 78, u 79, u 80, u 81, u 82, u 83, u 84, u 85, u 86, u 87, u 88, u 89, u 90, u 91, u 92, u 93, u 94, u 95, u 96, u 97, u 98, u 99, u 100, u 101, u 102, u 103, u 104, u 105, u 106, u 107, u 108, u 109, u 110, u 111, u 112, u 113, u 114, u 115, u 116, u 117, u 118, u 119, u 120, u 121, u 122, u 123, u 124, u 125, u 126, u 127, u 128, u 129, u 130, u 131, u 132, u 133, u 134, u 135, u 136, u 137, u 138, u 139, u 140, u 141, u 142, u 143, u 144, u 145, u 146, u 147, u 148, u 149, u 150, u 151, u 152, u 153, u 154, u 155, u 156, u 157, u 158, u 159, u 160, u 161, u 162, u 163, u 164, u 165, u 166, u 167, u 168, u 169, u 170, u 171, u 172, u 173, u 174, u 175, u 176, u 177, u 178, u 179, u 180, u 181, u 182, u 183, u 184, u 185, u 186, u 187, u 188, u 189, u 190, u 191, u 192, u 193, u 194, u 195, u 196, u 197, u 198, u 199, u 200, u 201, u 202, u 203, u 204, u 205, u 206, u 207, u 208, u 209, u 210, u 211, u 212, u 213, u 214, u 215, u 216, u 217, u 218, u 219, u 220, u 221, u 222, u 223, u 224, u 225, u 226, u 227, u 228, u 229, u 230, u 231, u 232, u 233, u 234, u 235, u 236, u 237, u 238, u 239, u 240, u 241, u 242, u 243, u 244, u 245, u 246, u 247, u 248, u 249, u 250, u 251, u 252, u 253, u 254, u 255, u 256, u 257, u 258, u 259, u 260, u 261, u 262, u 263, u 264, u 265, u 266, u 267, u 268, u 269, u 270, u 271, u 272, u 273, u 274, u 275, u 276, u 277, u 278, u 279, u 280, u 281, u 282, u 283, u 284, u 285, u 286, u 287, u 288, u 289, u 290, u 291, u 292, u 293, u 294, u 295, u 296, u 297, u 298, u 299, u 300, u 301, u 302, u 303, u 304, u 305, u 306, u 307, u 308, u 309, u 310, u 311, u 312, u 313, u 314, u 315, u 316, u 317, u 318, u 319, u 320, u 321, u 322, u 323, u 324, u 325, u 326, u 327, u 328, u 329, u 330, u 331, u 332, u 333, u 334, u 335, u 336, u 337, u 338, u 339, u 340, u 341, u 342, u 343, u 344, u 345, u 346, u 347, u 348, u 349, u 350, u 351, u 352, u 353, u 354, u 355, u 356, u 357, u 358, u 359, u 360, u 361, u 362, u 363, u 364, u 365, u 366, u 367, u 368, u 369, u 370, u 371, u 372, u 373, u 374, u 375, u 376, u 377, u 378, u 379, u 380, u 381, u 382, u 383, u 384, u 385, u 386, u 387, u 388, u 389, u 390, u 391, u 392, u 393, u 394, u 395, u 396, u 397, u 398, u 399, u 400, u 401, u 402, u 403, u 404, u 405, u 406, u 407, u 408, u 409, u 410, u 411, u 412, u 413, u 414, u 415, u 416, u 417, u 418, u 419, u 420, u 421, u 422, u 423, u 424, u 425, u 426, u 427, u 428, u 429, u 430, u 431, u 432, u 433, u 434, u 435, u 436, u 437, u 438, u 439, u 440, u 441, u 442, u 443, u 444, u 445, u 446], defers := [] }
theorem inv_of {w : World} {r : Option Nat} {pb base c1 : Nat} {B : Option Addr} {F : Int} {l : List UInt8} {U : List Nat} {q : Nat} {wr : World} (tm : Array Value) (k : Nat) (A : Option Addr) (n c : Nat) (m : List UInt8) (h : Rl w r base l U q k A n c m wr)
    (e : tm = #[.pointer (some ⟨pb, 0, none⟩), .slice B U.length c1, .int .i32 (q : Int), .int .u8 F, tm.getD 4 undef, tm.getD 5 undef, tm.getD 6 undef, tm.getD 7 undef, .slice (some ⟨w.heap.size, 0, none⟩) 4 4, .slice A n c, .int .i64 (k : Nat), .int .i64 (U.length : Nat), tm.getD 12 undef, .bool false, tm.getD 14 undef, tm.getD 15 undef, tm.getD 16 undef, tm.getD 17 undef, tm.getD 18 undef, tm.getD 19 undef, tm.getD 20 undef, tm.getD 21 undef, tm.getD 22 undef, tm.getD 23 undef, tm.getD 24 undef, tm.getD 25 undef, tm.getD 26 undef, tm.getD 27 undef, tm.getD 28 undef, tm.getD 29 undef, tm.getD 30 undef, tm.getD 31 undef, tm.getD 32 undef, tm.getD 33 undef, tm.getD 34 undef, tm.getD 35 undef, tm.getD 36 undef, tm.getD 37 undef, tm.getD 38 undef, tm.getD 39 undef, tm.getD 40 undef, tm.getD 41 undef, tm.getD 42 undef, tm.getD 43 undef, tm.getD 44 undef, tm.getD 45 undef, tm.getD 46 undef, tm.getD 47 undef, tm.getD 48 undef, tm.getD 49 undef, tm.getD 50 undef, tm.getD 51 undef, tm.getD 52 undef, tm.getD 53 undef, tm.getD 54 undef, tm.getD 55 undef, tm.getD 56 undef, tm.getD 57 undef, tm.getD 58 undef, tm.getD 59 undef, tm.getD 60 undef, tm.getD 61 undef, tm.getD 62 undef, tm.getD 63 undef, tm.getD 64 undef, tm.getD 65 undef, tm.getD 66 undef, tm.getD 67 undef, tm.getD 68 undef, tm.getD 69 undef, tm.getD 70 undef, tm.getD 71 undef, tm.getD 72 undef, tm.getD 73 undef, tm.getD 74 undef, tm.getD 75 undef, tm.getD 76 undef, tm.getD 77 undef, tm.getD 78 undef, tm.getD 79 undef, tm.getD 80 undef, tm.getD 81 undef, tm.getD 82 undef, tm.getD 83 undef, tm.getD 84 undef, tm.getD 85 undef, tm.getD 86 undef, tm.getD 87 undef, tm.getD 88 undef, tm.getD 89 undef, tm.getD 90 undef, tm.getD 91 undef, tm.getD 92 undef, tm.getD 93 undef, tm.getD 94 undef, tm.getD 95 undef, tm.getD 96 undef, tm.getD 97 undef, tm.getD 98 undef, tm.getD 99 undef, tm.getD 100 undef, tm.getD 101 undef, tm.getD 102 undef, tm.getD 103 undef, tm.getD 104 undef, tm.getD 105 undef, tm.getD 106 undef, tm.getD 107 undef, tm.getD 108 undef, tm.getD 109 undef, tm.getD 110 undef, tm.getD 111 undef, tm.getD 112 undef, tm.getD 113 undef, tm.getD 114 undef, tm.getD 115 undef, tm.getD 116 undef, tm.getD 117 undef, tm.getD 118 undef, tm.getD 119 undef, tm.getD 120 undef, tm.getD 121 undef, tm.getD 122 undef, tm.getD 123 undef, tm.getD 124 undef, tm.getD 125 undef, tm.getD 126 undef, tm.getD 127 undef, tm.getD 128 undef, tm.getD 129 undef, tm.getD 130 undef, tm.getD 131 undef, tm.getD 132 undef, tm.getD 133 undef, tm.getD 134 undef, tm.getD 135 undef, tm.getD 136 undef, tm.getD 137 undef, tm.getD 138 undef, tm.getD 139 undef, tm.getD 140 undef, tm.getD 141 undef, tm.getD 142 undef, tm.getD 143 undef, tm.getD 144 undef, tm.getD 145 undef, tm.getD 146 undef, tm.getD 147 undef, tm.getD 148 undef, tm.getD 149 undef, tm.getD 150 undef, tm.getD 151 undef, tm.getD 152 undef, tm.getD 153 undef, tm.getD 154 undef, tm.getD 155 undef, tm.getD 156 undef, tm.getD 157 undef, tm.getD 158 undef, tm.getD 159 undef, tm.getD 160 undef, tm.getD 161 undef, tm.getD 162 undef, tm.getD 163 undef, tm.getD 164 undef, tm.getD 165 undef, tm.getD 166 undef, tm.getD 167 undef, tm.getD 168 undef, tm.getD 169 undef, tm.getD 170 undef, tm.getD 171 undef, tm.getD 172 undef, tm.getD 173 undef, tm.getD 174 undef, tm.getD 175 undef, tm.getD 176 undef, tm.getD 177 undef, tm.getD 178 undef, tm.getD 179 undef, tm.getD 180 undef, tm.getD 181 undef, tm.getD 182 undef, tm.getD 183 undef, tm.getD 184 undef, tm.getD 185 undef, tm.getD 186 undef, tm.getD 187 undef, tm.getD 188 undef, tm.getD 189 undef, tm.getD 190 undef, tm.getD 191 undef, tm.getD 192 undef, tm.getD 193 undef, tm.getD 194 undef, tm.getD 195 undef, tm.getD 196 undef, tm.getD 197 undef, tm.getD 198 undef, tm.getD 199 undef, tm.getD 200 undef, tm.getD 201 undef, tm.getD 202 undef, tm.getD 203 undef, tm.getD 204 undef, tm.getD 205 undef, tm.getD 206 undef, tm.getD 207 undef, tm.getD 208 undef, tm.getD 209 undef, tm.getD 210 undef, tm.getD 211 undef, tm.getD 212 undef, tm.getD 213 undef, tm.getD 214 undef, tm.getD 215 undef, tm.getD 216 undef, tm.getD 217 undef, tm.getD 218 undef, tm.getD 219 undef, tm.getD 220 undef, tm.getD 221 undef, tm.getD 222 undef, tm.getD 223 undef, tm.getD 224 undef, tm.getD 225 undef, tm.getD 226 undef, tm.getD 227 undef, tm.getD 228 undef, tm.getD 229 undef, tm.getD 230 undef, tm.getD 231 undef, tm.getD 232 undef, tm.getD 233 undef, tm.getD 234 undef, tm.getD 235 undef, tm.getD 236 undef, tm.getD 237 undef, tm.getD 238 undef, tm.getD 239 undef, tm.getD 240 undef, tm.getD 241 undef, tm.getD 242 undef, tm.getD 243 undef, tm.getD 244 undef, tm.getD 245 undef, tm.getD 246 undef, tm.getD 247 undef, tm.getD 248 undef, tm.getD 249 undef, tm.getD 250 undef, tm.getD 251 undef, tm.getD 252 undef, tm.getD 253 undef, tm.getD 254 undef, tm.getD 255 undef, tm.getD 256 undef, tm.getD 257 undef, tm.getD 258 undef, tm.getD 259 undef, tm.getD 260 undef, tm.getD 261 undef, tm.getD 262 undef, tm.getD 263 undef, tm.getD 264 undef, tm.getD 265 undef, tm.getD 266 undef, tm.getD 267 undef, tm.getD 268 undef, tm.getD 269 undef, tm.getD 270 undef, tm.getD 271 undef, tm.getD 272 undef, tm.getD 273 undef, tm.getD 274 undef, tm.getD 275 undef, tm.getD 276 undef, tm.getD 277 undef, tm.getD 278 undef, tm.getD 279 undef, tm.getD 280 undef, tm.getD 281 undef, tm.getD 282 undef, tm.getD 283 undef, tm.getD 284 undef, tm.getD 285 undef, tm.getD 286 undef, tm.getD 287 undef, tm.getD 288 undef, tm.getD 289 undef, tm.getD 290 undef, tm.getD 291 undef, tm.getD 292 undef, tm.getD 293 undef, tm.getD 294 undef, tm.getD 295 undef, tm.getD 296 undef, tm.getD 297 undef, tm.getD 298 undef, tm.getD 299 undef, tm.getD 300 undef, tm.getD 301 undef, tm.getD 302 undef, tm.getD 303 undef, tm.getD 304 undef, tm.getD 305 undef, tm.getD 306 undef, tm.getD 307 undef, tm.getD 308 undef, tm.getD 309 undef, tm.getD 310 undef, tm.getD 311 undef, tm.getD 312 undef, tm.getD 313 undef, tm.getD 314 undef, tm.getD 315 undef, tm.getD 316 undef, tm.getD 317 undef, tm.getD 318 undef, tm.getD 319 undef, tm.getD 320 undef, tm.getD 321 undef, tm.getD 322 undef, tm.getD 323 undef, tm.getD 324 undef, tm.getD 325 undef, tm.getD 326 undef, tm.getD 327 undef, tm.getD 328 undef, tm.getD 329 undef, tm.getD 330 undef, tm.getD 331 undef, tm.getD 332 undef, tm.getD 333 undef, tm.getD 334 undef, tm.getD 335 undef, tm.getD 336 undef, tm.getD 337 undef, tm.getD 338 undef, tm.getD 339 undef, tm.getD 340 undef, tm.getD 341 undef, tm.getD 342 undef, tm.getD 343 undef, tm.getD 344 undef, tm.getD 345 undef, tm.getD 346 undef, tm.getD 347 undef, tm.getD 348 undef, tm.getD 349 undef, tm.getD 350 undef, tm.getD 351 undef, tm.getD 352 undef, tm.getD 353 undef, tm.getD 354 undef, tm.getD 355 undef, tm.getD 356 undef, tm.getD 357 undef, tm.getD 358 undef, tm.getD 359 undef, tm.getD 360 undef, tm.getD 361 undef, tm.getD 362 undef, tm.getD 363 undef, tm.getD 364 undef, tm.getD 365 undef, tm.getD 366 undef, tm.getD 367 undef, tm.getD 368 undef, tm.getD 369 undef, tm.getD 370 undef, tm.getD 371 undef, tm.getD 372 undef, tm.getD 373 undef, tm.getD 374 undef, tm.getD 375 undef, tm.getD 376 undef, tm.getD 377 undef, tm.getD 378 undef, tm.getD 379 undef, tm.getD 380 undef, tm.getD 381 undef, tm.getD 382 undef, tm.getD 383 undef, tm.getD 384 undef, tm.getD 385 undef, tm.getD 386 undef, tm.getD 387 undef, tm.getD 388 undef, tm.getD 389 undef, tm.getD 390 undef, tm.getD 391 undef, tm.getD 392 undef, tm.getD 393 undef, tm.getD 394 undef, tm.getD 395 undef, tm.getD 396 undef, tm.getD 397 undef, tm.getD 398 undef, tm.getD 399 undef, tm.getD 400 undef, tm.getD 401 undef, tm.getD 402 undef, tm.getD 403 undef, tm.getD 404 undef, tm.getD 405 undef, tm.getD 406 undef, tm.getD 407 undef, tm.getD 408 undef, tm.getD 409 undef, tm.getD 410 undef, tm.getD 411 undef, tm.getD 412 undef, tm.getD 413 undef, tm.getD 414 undef, tm.getD 415 undef, tm.getD 416 undef, tm.getD 417 undef, tm.getD 418 undef, tm.getD 419 undef, tm.getD 420 undef, tm.getD 421 undef, tm.getD 422 undef, tm.getD 423 undef, tm.getD 424 undef, tm.getD 425 undef, tm.getD 426 undef, tm.getD 427 undef, tm.getD 428 undef, tm.getD 429 undef, tm.getD 430 undef, tm.getD 431 undef, tm.getD 432 undef, tm.getD 433 undef, tm.getD 434 undef, tm.getD 435 undef, tm.getD 436 undef, tm.getD 437 undef, tm.getD 438 undef, tm.getD 439 undef, tm.getD 440 undef, tm.getD 441 undef, tm.getD 442 undef, tm.getD 443 undef, tm.getD 444 undef, tm.getD 445 undef, tm.getD 446 undef]) : Inv w r pb base c1 B F l U q { tmps := tm, defers := [] } wr :=
  ⟨k, A, n, c, m, fun i => tm.getD i undef, h, by rw [← e]⟩
/-- The inner loop: j units have matched. -/
def Inv2 (w wr : World) (pb c1 : Nat) (x : Addr) (F : Int) (U : List Nat) (q k : Nat) (A : Option Addr) (n c : Nat) (a' : Act) (w' : World) : Prop :=
  wr = w' ∧ ∃ (j : Nat) (u : Nat → Value), j ≤ 6 ∧ (∀ i, i < j → lowc (U.getD (k + 1 + i) 0) = scrL.getD i 0) ∧ a' = { tmps := #[.pointer (some ⟨pb, 0, none⟩), .slice (some x) U.length c1, .int .i32 (q : Int), .int .u8 F, u 4, u 5, u 6, u 7, .slice (some ⟨w.heap.size, 0, none⟩) 4 4, .slice A n c, .int .i64 ((k : Nat) + 1), .int .i64 (U.length : Nat), u 12, .bool false, u 14, .string { data := #[115, 99, 114, 105, 112, 116] }, .bool true, .int .i64 (j : Nat), u 18, u 19, u 20, u 21, u 22, u 23, u 24, u 25, u 26, u 27, u 28, u 29, u 30, u 31, u 32, u 33, u 34, u 35, u 36, u 37, u 38, u 39, u 40, u 41, u 42, u 43, u 44, u 45, u 46, u 47, u 48, u 49, u 50, u 51, u 52, u 53, u 54, u 55, u 56, u 57, u 58, u 59, u 60, u 61, u 62, u 63, u 64, u 65, u 66, u 67, u 68, u 69, u 70, u 71, u 72, u 73, u 74, u 75, u 76, u 77, u 78, u 79, u 80, u 81, u 82, u 83, u 84, u 85, u 86, u 87, u 88, u 89, u 90, u 91, u 92, u 93, u 94, u 95, u 96, u 97, u 98, u 99, u 100, u 101, u 102, u 103, u 104, u 105, u 106, u 107, u 108, u 109, u 110, u 111, u 112, u 113, u 114, u 115, u 116, u 117, u 118, u 119, u 120, u 121, u 122, u 123, u 124, u 125, u 126, u 127, u 128, u 129, u 130, u 131, u 132, u 133, u 134, u 135, u 136, u 137, u 138, u 139, u 140, u 141, u 142, u 143, u 144, u 145, u 146, u 147, u 148, u 149, u 150, u 151, u 152, u 153, u 154, u 155, u 156, u 157, u 158, u 159, u 160, u 161, u 162, u 163, u 164, u 165, u 166, u 167, u 168, u 169, u 170, u 171, u 172, u 173, u 174, u 175, u 176, u 177, u 178, u 179, u 180, u 181, u 182, u 183, u 184, u 185, u 186, u 187, u 188, u 189, u 190, u 191, u 192, u 193, u 194, u 195, u 196, u 197, u 198, u 199, u 200, u 201, u 202, u 203, u 204, u 205, u 206, u 207, u 208, u 209, u 210, u 211, u 212, u 213, u 214, u 215, u 216, u 217, u 218, u 219, u 220, u 221, u 222, u 223, u 224, u 225, u 226, u 227, u 228, u 229, u 230, u 231, u 232, u 233, u 234, u 235, u 236, u 237, u 238, u 239, u 240, u 241, u 242, u 243, u 244, u 245, u 246, u 247, u 248, u 249, u 250, u 251, u 252, u 253, u 254, u 255, u 256, u 257, u 258, u 259, u 260, u 261, u 262, u 263, u 264, u 265, u 266, u 267, u 268, u 269, u 270, u 271, u 272, u 273, u 274, u 275, u 276, u 277, u 278, u 279, u 280, u 281, u 282, u 283, u 284, u 285, u 286, u 287, u 288, u 289, u 290, u 291, u 292, u 293, u 294, u 295, u 296, u 297, u 298, u 299, u 300, u 301, u 302, u 303, u 304, u 305, u 306, u 307, u 308, u 309, u 310, u 311, u 312, u 313, u 314, u 315, u 316, u 317, u 318, u 319, u 320, u 321, u 322, u 323, u 324, u 325, u 326, u 327, u 328, u 329, u 330, u 331, u 332, u 333, u 334, u 335, u 336, u 337, u 338, u 339, u 340, u 341, u 342, u 343, u 344, u 345, u 346, u 347, u 348, u 349, u 350, u 351, u 352, u 353, u 354, u 355, u 356, u 357, u 358, u 359, u 360, u 361, u 362, u 363, u 364, u 365, u 366, u 367, u 368, u 369, u 370, u 371, u 372, u 373, u 374, u 375, u 376, u 377, u 378, u 379, u 380, u 381, u 382, u 383, u 384, u 385, u 386, u 387, u 388, u 389, u 390, u 391, u 392, u 393, u 394, u 395, u 396, u 397, u 398, u 399, u 400, u 401, u 402, u 403, u 404, u 405, u 406, u 407, u 408, u 409, u 410, u 411, u 412, u 413, u 414, u 415, u 416, u 417, u 418, u 419, u 420, u 421, u 422, u 423, u 424, u 425, u 426, u 427, u 428, u 429, u 430, u 431, u 432, u 433, u 434, u 435, u 436, u 437, u 438, u 439, u 440, u 441, u 442, u 443, u 444, u 445, u 446], defers := [] }
theorem inv2_of {w wr : World} {pb c1 : Nat} {x : Addr} {F : Int} {U : List Nat} {q k : Nat} {A : Option Addr} {n c : Nat} (tm : Array Value) (j : Nat) (hj : j ≤ 6) (h : ∀ i, i < j → lowc (U.getD (k + 1 + i) 0) = scrL.getD i 0)
    (e : tm = #[.pointer (some ⟨pb, 0, none⟩), .slice (some x) U.length c1, .int .i32 (q : Int), .int .u8 F, tm.getD 4 undef, tm.getD 5 undef, tm.getD 6 undef, tm.getD 7 undef, .slice (some ⟨w.heap.size, 0, none⟩) 4 4, .slice A n c, .int .i64 ((k : Nat) + 1), .int .i64 (U.length : Nat), tm.getD 12 undef, .bool false, tm.getD 14 undef, .string { data := #[115, 99, 114, 105, 112, 116] }, .bool true, .int .i64 (j : Nat), tm.getD 18 undef, tm.getD 19 undef, tm.getD 20 undef, tm.getD 21 undef, tm.getD 22 undef, tm.getD 23 undef, tm.getD 24 undef, tm.getD 25 undef, tm.getD 26 undef, tm.getD 27 undef, tm.getD 28 undef, tm.getD 29 undef, tm.getD 30 undef, tm.getD 31 undef, tm.getD 32 undef, tm.getD 33 undef, tm.getD 34 undef, tm.getD 35 undef, tm.getD 36 undef, tm.getD 37 undef, tm.getD 38 undef, tm.getD 39 undef, tm.getD 40 undef, tm.getD 41 undef, tm.getD 42 undef, tm.getD 43 undef, tm.getD 44 undef, tm.getD 45 undef, tm.getD 46 undef, tm.getD 47 undef, tm.getD 48 undef, tm.getD 49 undef, tm.getD 50 undef, tm.getD 51 undef, tm.getD 52 undef, tm.getD 53 undef, tm.getD 54 undef, tm.getD 55 undef, tm.getD 56 undef, tm.getD 57 undef, tm.getD 58 undef, tm.getD 59 undef, tm.getD 60 undef, tm.getD 61 undef, tm.getD 62 undef, tm.getD 63 undef, tm.getD 64 undef, tm.getD 65 undef, tm.getD 66 undef, tm.getD 67 undef, tm.getD 68 undef, tm.getD 69 undef, tm.getD 70 undef, tm.getD 71 undef, tm.getD 72 undef, tm.getD 73 undef, tm.getD 74 undef, tm.getD 75 undef, tm.getD 76 undef, tm.getD 77 undef, tm.getD 78 undef, tm.getD 79 undef, tm.getD 80 undef, tm.getD 81 undef, tm.getD 82 undef, tm.getD 83 undef, tm.getD 84 undef, tm.getD 85 undef, tm.getD 86 undef, tm.getD 87 undef, tm.getD 88 undef, tm.getD 89 undef, tm.getD 90 undef, tm.getD 91 undef, tm.getD 92 undef, tm.getD 93 undef, tm.getD 94 undef, tm.getD 95 undef, tm.getD 96 undef, tm.getD 97 undef, tm.getD 98 undef, tm.getD 99 undef, tm.getD 100 undef, tm.getD 101 undef, tm.getD 102 undef, tm.getD 103 undef, tm.getD 104 undef, tm.getD 105 undef, tm.getD 106 undef, tm.getD 107 undef, tm.getD 108 undef, tm.getD 109 undef, tm.getD 110 undef, tm.getD 111 undef, tm.getD 112 undef, tm.getD 113 undef, tm.getD 114 undef, tm.getD 115 undef, tm.getD 116 undef, tm.getD 117 undef, tm.getD 118 undef, tm.getD 119 undef, tm.getD 120 undef, tm.getD 121 undef, tm.getD 122 undef, tm.getD 123 undef, tm.getD 124 undef, tm.getD 125 undef, tm.getD 126 undef, tm.getD 127 undef, tm.getD 128 undef, tm.getD 129 undef, tm.getD 130 undef, tm.getD 131 undef, tm.getD 132 undef, tm.getD 133 undef, tm.getD 134 undef, tm.getD 135 undef, tm.getD 136 undef, tm.getD 137 undef, tm.getD 138 undef, tm.getD 139 undef, tm.getD 140 undef, tm.getD 141 undef, tm.getD 142 undef, tm.getD 143 undef, tm.getD 144 undef, tm.getD 145 undef, tm.getD 146 undef, tm.getD 147 undef, tm.getD 148 undef, tm.getD 149 undef, tm.getD 150 undef, tm.getD 151 undef, tm.getD 152 undef, tm.getD 153 undef, tm.getD 154 undef, tm.getD 155 undef, tm.getD 156 undef, tm.getD 157 undef, tm.getD 158 undef, tm.getD 159 undef, tm.getD 160 undef, tm.getD 161 undef, tm.getD 162 undef, tm.getD 163 undef, tm.getD 164 undef, tm.getD 165 undef, tm.getD 166 undef, tm.getD 167 undef, tm.getD 168 undef, tm.getD 169 undef, tm.getD 170 undef, tm.getD 171 undef, tm.getD 172 undef, tm.getD 173 undef, tm.getD 174 undef, tm.getD 175 undef, tm.getD 176 undef, tm.getD 177 undef, tm.getD 178 undef, tm.getD 179 undef, tm.getD 180 undef, tm.getD 181 undef, tm.getD 182 undef, tm.getD 183 undef, tm.getD 184 undef, tm.getD 185 undef, tm.getD 186 undef, tm.getD 187 undef, tm.getD 188 undef, tm.getD 189 undef, tm.getD 190 undef, tm.getD 191 undef, tm.getD 192 undef, tm.getD 193 undef, tm.getD 194 undef, tm.getD 195 undef, tm.getD 196 undef, tm.getD 197 undef, tm.getD 198 undef, tm.getD 199 undef, tm.getD 200 undef, tm.getD 201 undef, tm.getD 202 undef, tm.getD 203 undef, tm.getD 204 undef, tm.getD 205 undef, tm.getD 206 undef, tm.getD 207 undef, tm.getD 208 undef, tm.getD 209 undef, tm.getD 210 undef, tm.getD 211 undef, tm.getD 212 undef, tm.getD 213 undef, tm.getD 214 undef, tm.getD 215 undef, tm.getD 216 undef, tm.getD 217 undef, tm.getD 218 undef, tm.getD 219 undef, tm.getD 220 undef, tm.getD 221 undef, tm.getD 222 undef, tm.getD 223 undef, tm.getD 224 undef, tm.getD 225 undef, tm.getD 226 undef, tm.getD 227 undef, tm.getD 228 undef, tm.getD 229 undef, tm.getD 230 undef, tm.getD 231 undef, tm.getD 232 undef, tm.getD 233 undef, tm.getD 234 undef, tm.getD 235 undef, tm.getD 236 undef, tm.getD 237 undef, tm.getD 238 undef, tm.getD 239 undef, tm.getD 240 undef, tm.getD 241 undef, tm.getD 242 undef, tm.getD 243 undef, tm.getD 244 undef, tm.getD 245 undef, tm.getD 246 undef, tm.getD 247 undef, tm.getD 248 undef, tm.getD 249 undef, tm.getD 250 undef, tm.getD 251 undef, tm.getD 252 undef, tm.getD 253 undef, tm.getD 254 undef, tm.getD 255 undef, tm.getD 256 undef, tm.getD 257 undef, tm.getD 258 undef, tm.getD 259 undef, tm.getD 260 undef, tm.getD 261 undef, tm.getD 262 undef, tm.getD 263 undef, tm.getD 264 undef, tm.getD 265 undef, tm.getD 266 undef, tm.getD 267 undef, tm.getD 268 undef, tm.getD 269 undef, tm.getD 270 undef, tm.getD 271 undef, tm.getD 272 undef, tm.getD 273 undef, tm.getD 274 undef, tm.getD 275 undef, tm.getD 276 undef, tm.getD 277 undef, tm.getD 278 undef, tm.getD 279 undef, tm.getD 280 undef, tm.getD 281 undef, tm.getD 282 undef, tm.getD 283 undef, tm.getD 284 undef, tm.getD 285 undef, tm.getD 286 undef, tm.getD 287 undef, tm.getD 288 undef, tm.getD 289 undef, tm.getD 290 undef, tm.getD 291 undef, tm.getD 292 undef, tm.getD 293 undef, tm.getD 294 undef, tm.getD 295 undef, tm.getD 296 undef, tm.getD 297 undef, tm.getD 298 undef, tm.getD 299 undef, tm.getD 300 undef, tm.getD 301 undef, tm.getD 302 undef, tm.getD 303 undef, tm.getD 304 undef, tm.getD 305 undef, tm.getD 306 undef, tm.getD 307 undef, tm.getD 308 undef, tm.getD 309 undef, tm.getD 310 undef, tm.getD 311 undef, tm.getD 312 undef, tm.getD 313 undef, tm.getD 314 undef, tm.getD 315 undef, tm.getD 316 undef, tm.getD 317 undef, tm.getD 318 undef, tm.getD 319 undef, tm.getD 320 undef, tm.getD 321 undef, tm.getD 322 undef, tm.getD 323 undef, tm.getD 324 undef, tm.getD 325 undef, tm.getD 326 undef, tm.getD 327 undef, tm.getD 328 undef, tm.getD 329 undef, tm.getD 330 undef, tm.getD 331 undef, tm.getD 332 undef, tm.getD 333 undef, tm.getD 334 undef, tm.getD 335 undef, tm.getD 336 undef, tm.getD 337 undef, tm.getD 338 undef, tm.getD 339 undef, tm.getD 340 undef, tm.getD 341 undef, tm.getD 342 undef, tm.getD 343 undef, tm.getD 344 undef, tm.getD 345 undef, tm.getD 346 undef, tm.getD 347 undef, tm.getD 348 undef, tm.getD 349 undef, tm.getD 350 undef, tm.getD 351 undef, tm.getD 352 undef, tm.getD 353 undef, tm.getD 354 undef, tm.getD 355 undef, tm.getD 356 undef, tm.getD 357 undef, tm.getD 358 undef, tm.getD 359 undef, tm.getD 360 undef, tm.getD 361 undef, tm.getD 362 undef, tm.getD 363 undef, tm.getD 364 undef, tm.getD 365 undef, tm.getD 366 undef, tm.getD 367 undef, tm.getD 368 undef, tm.getD 369 undef, tm.getD 370 undef, tm.getD 371 undef, tm.getD 372 undef, tm.getD 373 undef, tm.getD 374 undef, tm.getD 375 undef, tm.getD 376 undef, tm.getD 377 undef, tm.getD 378 undef, tm.getD 379 undef, tm.getD 380 undef, tm.getD 381 undef, tm.getD 382 undef, tm.getD 383 undef, tm.getD 384 undef, tm.getD 385 undef, tm.getD 386 undef, tm.getD 387 undef, tm.getD 388 undef, tm.getD 389 undef, tm.getD 390 undef, tm.getD 391 undef, tm.getD 392 undef, tm.getD 393 undef, tm.getD 394 undef, tm.getD 395 undef, tm.getD 396 undef, tm.getD 397 undef, tm.getD 398 undef, tm.getD 399 undef, tm.getD 400 undef, tm.getD 401 undef, tm.getD 402 undef, tm.getD 403 undef, tm.getD 404 undef, tm.getD 405 undef, tm.getD 406 undef, tm.getD 407 undef, tm.getD 408 undef, tm.getD 409 undef, tm.getD 410 undef, tm.getD 411 undef, tm.getD 412 undef, tm.getD 413 undef, tm.getD 414 undef, tm.getD 415 undef, tm.getD 416 undef, tm.getD 417 undef, tm.getD 418 undef, tm.getD 419 undef, tm.getD 420 undef, tm.getD 421 undef, tm.getD 422 undef, tm.getD 423 undef, tm.getD 424 undef, tm.getD 425 undef, tm.getD 426 undef, tm.getD 427 undef, tm.getD 428 undef, tm.getD 429 undef, tm.getD 430 undef, tm.getD 431 undef, tm.getD 432 undef, tm.getD 433 undef, tm.getD 434 undef, tm.getD 435 undef, tm.getD 436 undef, tm.getD 437 undef, tm.getD 438 undef, tm.getD 439 undef, tm.getD 440 undef, tm.getD 441 undef, tm.getD 442 undef, tm.getD 443 undef, tm.getD 444 undef, tm.getD 445 undef, tm.getD 446 undef]) : Inv2 w wr pb c1 x F U q k A n c { tmps := tm, defers := [] } wr :=
  ⟨rfl, j, fun i => tm.getD i undef, hj, h, by rw [← e]⟩
theorem has26 (mi : Bool × Bool) (w : World) : Calls Tryf.prog 15 #[.int .u64 (ft mi), .int .u64 68719476736] w fun e w' => e = .returned (.bool false) ∧ w = w' := by
  have h : ft mi = 0 ∨ ft mi = 72057594037927936 := by unfold ft; split <;> simp
  rcases h with h | h <;> rw [h]
  all_goals
    go_enter Tryf.func15, Tryf.ntmps15
    go_wp2
    go_ret
    exact ⟨rfl, rfl⟩
theorem scr_ch (j : Nat) (h : j < 6) (hs : j < ({ data := #[115, 99, 114, 105, 112, 116] } : ByteArray).size) : scrL.getD j 0 = ((({ data := #[115, 99, 114, 105, 112, 116] } : ByteArray)[j]'hs).toNat) := by
  obtain rfl | rfl | rfl | rfl | rfl | rfl : j = 0 ∨ j = 1 ∨ j = 2 ∨ j = 3 ∨ j = 4 ∨ j = 5 := by omega
  all_goals rfl
theorem scr_yes {U : List Nat} {p : Nat} (h : ∀ i, i < 6 → lowc (U.getD (p + i) 0) = scrL.getD i 0) : scr U p = true := by
  unfold scr
  rw [List.all_eq_true]
  intro i hi
  rw [beq_iff_eq]
  exact h i (List.mem_range.1 hi)
theorem scr_no {U : List Nat} {p j : Nat} (hj : j < 6) (h : lowc (U.getD (p + j) 0) ≠ scrL.getD j 0) : scr U p = false := by
  rw [← Bool.not_eq_true]
  intro hs
  unfold scr at hs
  rw [List.all_eq_true] at hs
  exact h (beq_iff_eq.1 (hs j (List.mem_range.2 hj)))
def Qd (pb : Nat) (mi : Bool × Bool) (r : Option Nat) (base : Nat) (L : List UInt8) (w : World) (e : Ending) (w' : World) : Prop := Pd pb mi r base L w e w'
set_option maxRecDepth 20000 in
set_option maxHeartbeats 8000000 in
theorem unq28 (pb base n c n1 c1 : Nat) (mi : Bool × Bool) (A B : Option Addr) (l : List UInt8) (U : List Nat) (q : Nat) (F : Int) (w : World) (hp : Prn w pb mi (.slice A n c)) (ho : Own w base 5 (.slice A n c) (bv l)) (hl : n = l.length) (hb : base ≤ w.heap.size)
    (hU : Us w (Value.slice A n c).ownBlock B U) (hn : n1 = U.length) (hW : Wf U) (hq : q = 34 ∨ q = 39 ∨ q = 96) (hz : l.length + 6 * U.length ≤ 1073741000) :
    Calls Tryf.prog 17 #[.pointer (some ⟨pb, 0, none⟩), .slice B n1 c1, .int .i32 (q : Int), .int .u8 F] w (Qd pb mi (Value.slice A n c).ownBlock base (l ++ rest U q 0) w) := by
  subst hn
  obtain ⟨r, hr⟩ : ∃ r, r = (Value.slice A n c).ownBlock := ⟨_, rfl⟩
  rw [← hr] at hU ⊢
  have hpr : r ≠ some pb := by rw [hr]; exact own_ne hp ho
  have S0 : Sl w w r base A n c l := by rw [hr]; exact Sl.start ho hl
  have HP := Lib.hid hp; have HO := Lib.hid ho; have HU := Lib.hid hU; have HR := Lib.hid hr; have HW := Lib.hid hW
  have S1 : Hid (St w (w.alloc (.cells #[.int .u8 0, .int .u8 0, .int .u8 0, .int .u8 0] 5)) r base w.heap.size A n c (l ++ [])) := Lib.hid (by
    rw [List.append_nil]
    refine ⟨⟨ho.alloc _, hl, World.grownBy_alloc _ _ _, S0.loc⟩, fun j hj => ?_, by simp, Nat.le_refl _, fun e => by have := (ho.lt _ e).2; omega⟩
    have hh := heap_alloc_new w (.cells #[.int .u8 0, .int .u8 0, .int .u8 0, .int .u8 0] 5)
    obtain rfl | rfl | rfl | rfl : j = 0 ∨ j = 1 ∨ j = 2 ∨ j = 3 := by omega
    all_goals exact ⟨by unfold World.cell?; rw [hh]; rfl, by unfold World.frozen?; rw [hh]; rfl⟩)
  have p9 := hp.cell
  have p26 := hp.cells.2.2.1
  have hpl := hp.lt
  have HRL := Lib.hid (rest_len U q U.length 0)
  have hbz := hb
  have hmk : (Instr.makeSlice 25 (.int .i64 4) (.int .i64 4)).run Tryf.prog w = .ok (.slice (some ⟨w.heap.size, 0, none⟩) 4 4) (w.alloc (.cells #[.int .u8 0, .int .u8 0, .int .u8 0, .int .u8 0] 5)) := by
    have h := run_make_row' (P := Tryf.prog) 25 5 (.int .u8 0) 1 Tryf.underlying25 infoB rfl .i64 .i64 4 (by omega) (by omega) w
    rw [show madeCells #[Value.int .u8 0] 4 = #[.int .u8 0, .int .u8 0, .int .u8 0, .int .u8 0] by kernel_rfl] at h
    exact h
  clear hp ho hU hr hW S0 hl
  go_enter Tryf.func17, Tryf.ntmps17
  go_wp2_with (fail)
  clear hmk p9 p26
  refine wp_loop (Inv w r pb base c1 B F l U q) (fun a' _ => U.length - (intOf (a'.tmps.getD 10 undef)).toNat) ?_ ?_
  · exact inv_of _ 0 A n c [] ⟨Nat.zero_le _, S1.out, rfl, trivial⟩ (by kernel_rfl)
  · clear S1
    rintro a' wr ⟨k, A, n, c, m, u, hrel, rfl⟩
    have HS := Lib.hid hrel.st; have HM := Lib.hid hrel.out; have hpv := hrel.pv; have hk0 := hrel.le
    clear hrel
    have hsz := HS.out.sl.grown.size
    have HBZ := Lib.hid (show base ≤ wr.heap.size by omega)
    have hP := HP.out.of_block (HS.out.sl.grown.block pb hpl (fun e => hpr e.symm))
    have hml : (l ++ m).length + 8 ≤ 1073741824 := by
      have h1 := HM.out
      have h2 := HRL.out
      have h3 : (m ++ rest U q k).length ≤ 6 * U.length := by rw [h1]; exact h2
      rw [List.length_append] at h3 ⊢
      omega
    obtain ⟨L, hL⟩ : ∃ L, L = l ++ m := ⟨_, rfl⟩
    rw [← hL] at HS hml
    have HLL := Lib.hid hL
    have HPV0 := Lib.hid hpv
    clear hL hpv
    by_cases hk : k < U.length
    · obtain ⟨x, rfl, hxb, hx⟩ := HU.out.at_ HS.out.sl.grown k hk
      have hkn : (k : Int) < (U.length : Int) := by omega
      by_cases hcs : U.getD k 0 ∈ codes
      · unfold codes at hcs
        simp only [List.mem_cons, List.not_mem_nil, or_false] at hcs
        rcases hcs with hc | hc | hc | hc | hc | hc | hc | hc | hc | hc | hc | hc | hc | hc | hc | hc | hc
        · by_cases hd1 : k + 1 < U.length
          · obtain ⟨x', hx'', hxb', hd⟩ := HU.out.at_ HS.out.sl.grown (k + 1) hd1
            injection hx'' with hx''
            subst hx''
            rw [add_pos x (k + 1) (by omega)] at hd
            by_cases hd2 : 48 ≤ U.getD (k + 1) 0 ∧ U.getD (k + 1) 0 ≤ 57
            · have hx' : wr.cell? (x.add k) = some (.int .u16 0) := by rw [hx, hc]; rfl
              have HBY := Lib.hid (show byt U q k = [92, 120, 48, 48] from by unfold byt; rw [hc]; show byt2 U q k = _; unfold byt2; rw [if_pos hc, if_pos ⟨hd1, hd2⟩])
              have HNX := Lib.hid (show nxt U k = k + 1 by unfold nxt; rw [if_neg (by unfold pair; rw [hc]; simp)])
              have HPV : Hid (Pv U (k + 1)) := Lib.hid trivial
              have HOUT : Hid (m ++ byt U q k ++ rest U q (k + 1) = rest U q 0) := Lib.hid (by rw [← HNX.out, List.append_assoc, ← rest_step U q k hk]; exact HM.out)
              clear hx hc
              try clear hqc
              obtain ⟨dd, hdd⟩ : ∃ dd, dd = U.getD (k + 1) 0 := ⟨_, rfl⟩
              rw [← hdd] at hd
              rw [← hdd] at hd2
              clear hdd
              obtain ⟨g1, g2⟩ := hd2
              have t0 : (k : Int) + 1 < (U.length : Int) := by omega
              have t1 : (48 : Int) ≤ (dd : Int) := by omega
              have t2 : (dd : Int) ≤ 57 := by omega
              go_upto_region 41 with (fail)
              go_wp2_with (at_builtin; refine wp_append_str _ rfl (.tmp 276) (.const (.string { data := #[92, 120, 48, 48] })) 25 9 5 rfl Tryf.underlying25 Tryf.underlying9 infoB (.slice A n c) L base rfl HS.out.sl.own { data := #[92, 120, 48, 48] } rfl (by show _ + 4 ≤ _; omega) HBZ.out ?_; intro v1 w1 o1 g1 loc1; obtain ⟨A2, n2, c2, rfl, T2⟩ := HS.out.str (K := [92, 120, 48, 48]) g1 o1 loc1; have S2 := Lib.hid T2; clear T2 o1 g1 loc1)
              exact ⟨inv_of _ (k + 1) A2 n2 c2 (m ++ [92, 120, 48, 48]) ⟨by omega, by have := S2.out; rw [HLL.out, List.append_assoc] at this; exact this, HBY.out ▸ HOUT.out, HPV.out⟩ (by kernel_rfl), by simp [intOf]; omega⟩
            · have hx' : wr.cell? (x.add k) = some (.int .u16 0) := by rw [hx, hc]; rfl
              have HBY := Lib.hid (show byt U q k = [92, 48] from by unfold byt; rw [hc]; show byt2 U q k = _; unfold byt2; rw [if_pos hc, if_neg (fun h => hd2 h.2)])
              have HNX := Lib.hid (show nxt U k = k + 1 by unfold nxt; rw [if_neg (by unfold pair; rw [hc]; simp)])
              have HPV : Hid (Pv U (k + 1)) := Lib.hid trivial
              have HOUT : Hid (m ++ byt U q k ++ rest U q (k + 1) = rest U q 0) := Lib.hid (by rw [← HNX.out, List.append_assoc, ← rest_step U q k hk]; exact HM.out)
              clear hx hc
              try clear hqc
              obtain ⟨dd, hdd⟩ : ∃ dd, dd = U.getD (k + 1) 0 := ⟨_, rfl⟩
              rw [← hdd] at hd
              rw [← hdd] at hd2
              clear hdd
              have t0 : (k : Int) + 1 < (U.length : Int) := by omega
              have tt : (dd < 48) ∨ (48 ≤ dd ∧ 57 < dd) := by omega
              clear hd2
              rcases tt with tt | ⟨tt, tt2⟩
              · have t1 : ¬ (48 : Int) ≤ (dd : Int) := by omega
                go_upto_region 42 with (fail)
                go_wp2_with (at_builtin; refine wp_append_str _ rfl (.tmp 278) (.const (.string { data := #[92, 48] })) 25 9 5 rfl Tryf.underlying25 Tryf.underlying9 infoB (.slice A n c) L base rfl HS.out.sl.own { data := #[92, 48] } rfl (by show _ + 2 ≤ _; omega) HBZ.out ?_; intro v1 w1 o1 g1 loc1; obtain ⟨A2, n2, c2, rfl, T2⟩ := HS.out.str (K := [92, 48]) g1 o1 loc1; have S2 := Lib.hid T2; clear T2 o1 g1 loc1)
                exact ⟨inv_of _ (k + 1) A2 n2 c2 (m ++ [92, 48]) ⟨by omega, by have := S2.out; rw [HLL.out, List.append_assoc] at this; exact this, HBY.out ▸ HOUT.out, HPV.out⟩ (by kernel_rfl), by simp [intOf]; omega⟩
              · have t1 : (48 : Int) ≤ (dd : Int) := by omega
                have t2 : ¬ (dd : Int) ≤ 57 := by omega
                go_upto_region 42 with (fail)
                go_wp2_with (at_builtin; refine wp_append_str _ rfl (.tmp 278) (.const (.string { data := #[92, 48] })) 25 9 5 rfl Tryf.underlying25 Tryf.underlying9 infoB (.slice A n c) L base rfl HS.out.sl.own { data := #[92, 48] } rfl (by show _ + 2 ≤ _; omega) HBZ.out ?_; intro v1 w1 o1 g1 loc1; obtain ⟨A2, n2, c2, rfl, T2⟩ := HS.out.str (K := [92, 48]) g1 o1 loc1; have S2 := Lib.hid T2; clear T2 o1 g1 loc1)
                exact ⟨inv_of _ (k + 1) A2 n2 c2 (m ++ [92, 48]) ⟨by omega, by have := S2.out; rw [HLL.out, List.append_assoc] at this; exact this, HBY.out ▸ HOUT.out, HPV.out⟩ (by kernel_rfl), by simp [intOf]; omega⟩
          · have hx' : wr.cell? (x.add k) = some (.int .u16 0) := by rw [hx, hc]; rfl
            have HBY := Lib.hid (show byt U q k = [92, 48] from by unfold byt; rw [hc]; show byt2 U q k = _; unfold byt2; rw [if_pos hc, if_neg (fun h => hd1 h.1)])
            have HNX := Lib.hid (show nxt U k = k + 1 by unfold nxt; rw [if_neg (by unfold pair; rw [hc]; simp)])
            have HPV : Hid (Pv U (k + 1)) := Lib.hid trivial
            have HOUT : Hid (m ++ byt U q k ++ rest U q (k + 1) = rest U q 0) := Lib.hid (by rw [← HNX.out, List.append_assoc, ← rest_step U q k hk]; exact HM.out)
            clear hx hc
            try clear hqc
            have t0 : ¬ (k : Int) + 1 < (U.length : Int) := by omega
            go_upto_region 42 with (fail)
            go_wp2_with (at_builtin; refine wp_append_str _ rfl (.tmp 278) (.const (.string { data := #[92, 48] })) 25 9 5 rfl Tryf.underlying25 Tryf.underlying9 infoB (.slice A n c) L base rfl HS.out.sl.own { data := #[92, 48] } rfl (by show _ + 2 ≤ _; omega) HBZ.out ?_; intro v1 w1 o1 g1 loc1; obtain ⟨A2, n2, c2, rfl, T2⟩ := HS.out.str (K := [92, 48]) g1 o1 loc1; have S2 := Lib.hid T2; clear T2 o1 g1 loc1)
            exact ⟨inv_of _ (k + 1) A2 n2 c2 (m ++ [92, 48]) ⟨by omega, by have := S2.out; rw [HLL.out, List.append_assoc] at this; exact this, HBY.out ▸ HOUT.out, HPV.out⟩ (by kernel_rfl), by simp [intOf]; omega⟩
        · have hx' : wr.cell? (x.add k) = some (.int .u16 7) := by rw [hx, hc]; rfl
          have HBY := Lib.hid (show byt U q k = [92, 120, 48, 55] from by unfold byt; rw [hc]; rfl)
          have HNX := Lib.hid (show nxt U k = k + 1 by unfold nxt; rw [if_neg (by unfold pair; rw [hc]; simp)])
          have HPV : Hid (Pv U (k + 1)) := Lib.hid trivial
          have HOUT : Hid (m ++ byt U q k ++ rest U q (k + 1) = rest U q 0) := Lib.hid (by rw [← HNX.out, List.append_assoc, ← rest_step U q k hk]; exact HM.out)
          clear hx hc
          go_wp2_with (at_builtin; refine wp_append_str _ rfl (.tmp 282) (.const (.string { data := #[92, 120, 48, 55] })) 25 9 5 rfl Tryf.underlying25 Tryf.underlying9 infoB (.slice A n c) L base rfl HS.out.sl.own { data := #[92, 120, 48, 55] } rfl (by show _ + 4 ≤ _; omega) HBZ.out ?_; intro v1 w1 o1 g1 loc1; obtain ⟨A2, n2, c2, rfl, T2⟩ := HS.out.str (K := [92, 120, 48, 55]) g1 o1 loc1; have S2 := Lib.hid T2; clear T2 o1 g1 loc1)
          exact ⟨inv_of _ (k + 1) A2 n2 c2 (m ++ [92, 120, 48, 55]) ⟨by omega, by have := S2.out; rw [HLL.out, List.append_assoc] at this; exact this, HBY.out ▸ HOUT.out, HPV.out⟩ (by kernel_rfl), by simp [intOf]; omega⟩
        · have hx' : wr.cell? (x.add k) = some (.int .u16 8) := by rw [hx, hc]; rfl
          have HBY := Lib.hid (show byt U q k = [92, 98] from by unfold byt; rw [hc]; rfl)
          have HNX := Lib.hid (show nxt U k = k + 1 by unfold nxt; rw [if_neg (by unfold pair; rw [hc]; simp)])
          have HPV : Hid (Pv U (k + 1)) := Lib.hid trivial
          have HOUT : Hid (m ++ byt U q k ++ rest U q (k + 1) = rest U q 0) := Lib.hid (by rw [← HNX.out, List.append_assoc, ← rest_step U q k hk]; exact HM.out)
          clear hx hc
          go_wp2_with (at_builtin; refine wp_append_str _ rfl (.tmp 286) (.const (.string { data := #[92, 98] })) 25 9 5 rfl Tryf.underlying25 Tryf.underlying9 infoB (.slice A n c) L base rfl HS.out.sl.own { data := #[92, 98] } rfl (by show _ + 2 ≤ _; omega) HBZ.out ?_; intro v1 w1 o1 g1 loc1; obtain ⟨A2, n2, c2, rfl, T2⟩ := HS.out.str (K := [92, 98]) g1 o1 loc1; have S2 := Lib.hid T2; clear T2 o1 g1 loc1)
          exact ⟨inv_of _ (k + 1) A2 n2 c2 (m ++ [92, 98]) ⟨by omega, by have := S2.out; rw [HLL.out, List.append_assoc] at this; exact this, HBY.out ▸ HOUT.out, HPV.out⟩ (by kernel_rfl), by simp [intOf]; omega⟩
        · have hx' : wr.cell? (x.add k) = some (.int .u16 12) := by rw [hx, hc]; rfl
          have HBY := Lib.hid (show byt U q k = [92, 102] from by unfold byt; rw [hc]; rfl)
          have HNX := Lib.hid (show nxt U k = k + 1 by unfold nxt; rw [if_neg (by unfold pair; rw [hc]; simp)])
          have HPV : Hid (Pv U (k + 1)) := Lib.hid trivial
          have HOUT : Hid (m ++ byt U q k ++ rest U q (k + 1) = rest U q 0) := Lib.hid (by rw [← HNX.out, List.append_assoc, ← rest_step U q k hk]; exact HM.out)
          clear hx hc
          go_wp2_with (at_builtin; refine wp_append_str _ rfl (.tmp 290) (.const (.string { data := #[92, 102] })) 25 9 5 rfl Tryf.underlying25 Tryf.underlying9 infoB (.slice A n c) L base rfl HS.out.sl.own { data := #[92, 102] } rfl (by show _ + 2 ≤ _; omega) HBZ.out ?_; intro v1 w1 o1 g1 loc1; obtain ⟨A2, n2, c2, rfl, T2⟩ := HS.out.str (K := [92, 102]) g1 o1 loc1; have S2 := Lib.hid T2; clear T2 o1 g1 loc1)
          exact ⟨inv_of _ (k + 1) A2 n2 c2 (m ++ [92, 102]) ⟨by omega, by have := S2.out; rw [HLL.out, List.append_assoc] at this; exact this, HBY.out ▸ HOUT.out, HPV.out⟩ (by kernel_rfl), by simp [intOf]; omega⟩
        · by_cases hqc : q = 96
          · have e1 : ((q : Int) == 96) = true := by rw [beq_iff_eq]; omega
            have hx' : wr.cell? (x.add k) = some (.int .u16 10) := by rw [hx, hc]; rfl
            have HBY := Lib.hid (show byt U q k = [10] from by unfold byt; rw [hc]; show byt2 U q k = _; unfold byt2; rw [if_neg (by rw [hc]; decide), if_pos hc, if_pos hqc])
            have HNX := Lib.hid (show nxt U k = k + 1 by unfold nxt; rw [if_neg (by unfold pair; rw [hc]; simp)])
            have HPV : Hid (Pv U (k + 1)) := Lib.hid trivial
            have HOUT : Hid (m ++ byt U q k ++ rest U q (k + 1) = rest U q 0) := Lib.hid (by rw [← HNX.out, List.append_assoc, ← rest_step U q k hk]; exact HM.out)
            clear hx hc
            try clear hqc
            go_wp2_with (at_builtin; refine append_any _ rfl (.tmp 298) (.tmp 299) 25 5 rfl base Tryf.underlying25 (.int .u8 0) 1 rfl (by omega) infoB (.slice A n c) (bv (L)) rfl (HS.out.sl.own.alloc _) (wr.heap.size + 1) (some ⟨wr.heap.size, 0, none⟩) 1 1 [.int .u8 10] rfl rfl (rd_cells _ _ _) (one_u8 [10]) (by rw [bv_len]; first | omega | (rw [List.length_append]; simp only [List.length_cons, List.length_nil]; omega)) (le_alloc HBZ.out _) ?_; intro vw1 w1 o1 g1 at1; obtain ⟨A2, n2, c2, rfl, T2⟩ := HS.out.byte (K := [10]) g1 o1 at1; have S2 := Lib.hid T2; clear T2 o1 g1 at1)
            exact ⟨inv_of _ (k + 1) A2 n2 c2 (m ++ [10]) ⟨by omega, by have := S2.out; rw [HLL.out, List.append_assoc] at this; exact this, HBY.out ▸ HOUT.out, HPV.out⟩ (by kernel_rfl), by simp [intOf]; omega⟩
          · have e1 : ((q : Int) == 96) = false := by rw [beq_eq_false_iff_ne]; omega
            have hx' : wr.cell? (x.add k) = some (.int .u16 10) := by rw [hx, hc]; rfl
            have HBY := Lib.hid (show byt U q k = [92, 110] from by unfold byt; rw [hc]; show byt2 U q k = _; unfold byt2; rw [if_neg (by rw [hc]; decide), if_pos hc, if_neg hqc])
            have HNX := Lib.hid (show nxt U k = k + 1 by unfold nxt; rw [if_neg (by unfold pair; rw [hc]; simp)])
            have HPV : Hid (Pv U (k + 1)) := Lib.hid trivial
            have HOUT : Hid (m ++ byt U q k ++ rest U q (k + 1) = rest U q 0) := Lib.hid (by rw [← HNX.out, List.append_assoc, ← rest_step U q k hk]; exact HM.out)
            clear hx hc
            try clear hqc
            go_wp2_with (at_builtin; refine wp_append_str _ rfl (.tmp 301) (.const (.string { data := #[92, 110] })) 25 9 5 rfl Tryf.underlying25 Tryf.underlying9 infoB (.slice A n c) L base rfl HS.out.sl.own { data := #[92, 110] } rfl (by show _ + 2 ≤ _; omega) HBZ.out ?_; intro v1 w1 o1 g1 loc1; obtain ⟨A2, n2, c2, rfl, T2⟩ := HS.out.str (K := [92, 110]) g1 o1 loc1; have S2 := Lib.hid T2; clear T2 o1 g1 loc1)
            exact ⟨inv_of _ (k + 1) A2 n2 c2 (m ++ [92, 110]) ⟨by omega, by have := S2.out; rw [HLL.out, List.append_assoc] at this; exact this, HBY.out ▸ HOUT.out, HPV.out⟩ (by kernel_rfl), by simp [intOf]; omega⟩
        · have hx' : wr.cell? (x.add k) = some (.int .u16 13) := by rw [hx, hc]; rfl
          have HBY := Lib.hid (show byt U q k = [92, 114] from by unfold byt; rw [hc]; rfl)
          have HNX := Lib.hid (show nxt U k = k + 1 by unfold nxt; rw [if_neg (by unfold pair; rw [hc]; simp)])
          have HPV : Hid (Pv U (k + 1)) := Lib.hid trivial
          have HOUT : Hid (m ++ byt U q k ++ rest U q (k + 1) = rest U q 0) := Lib.hid (by rw [← HNX.out, List.append_assoc, ← rest_step U q k hk]; exact HM.out)
          clear hx hc
          go_wp2_with (at_builtin; refine wp_append_str _ rfl (.tmp 305) (.const (.string { data := #[92, 114] })) 25 9 5 rfl Tryf.underlying25 Tryf.underlying9 infoB (.slice A n c) L base rfl HS.out.sl.own { data := #[92, 114] } rfl (by show _ + 2 ≤ _; omega) HBZ.out ?_; intro v1 w1 o1 g1 loc1; obtain ⟨A2, n2, c2, rfl, T2⟩ := HS.out.str (K := [92, 114]) g1 o1 loc1; have S2 := Lib.hid T2; clear T2 o1 g1 loc1)
          exact ⟨inv_of _ (k + 1) A2 n2 c2 (m ++ [92, 114]) ⟨by omega, by have := S2.out; rw [HLL.out, List.append_assoc] at this; exact this, HBY.out ▸ HOUT.out, HPV.out⟩ (by kernel_rfl), by simp [intOf]; omega⟩
        · have hx' : wr.cell? (x.add k) = some (.int .u16 11) := by rw [hx, hc]; rfl
          have HBY := Lib.hid (show byt U q k = [92, 118] from by unfold byt; rw [hc]; rfl)
          have HNX := Lib.hid (show nxt U k = k + 1 by unfold nxt; rw [if_neg (by unfold pair; rw [hc]; simp)])
          have HPV : Hid (Pv U (k + 1)) := Lib.hid trivial
          have HOUT : Hid (m ++ byt U q k ++ rest U q (k + 1) = rest U q 0) := Lib.hid (by rw [← HNX.out, List.append_assoc, ← rest_step U q k hk]; exact HM.out)
          clear hx hc
          go_wp2_with (at_builtin; refine wp_append_str _ rfl (.tmp 309) (.const (.string { data := #[92, 118] })) 25 9 5 rfl Tryf.underlying25 Tryf.underlying9 infoB (.slice A n c) L base rfl HS.out.sl.own { data := #[92, 118] } rfl (by show _ + 2 ≤ _; omega) HBZ.out ?_; intro v1 w1 o1 g1 loc1; obtain ⟨A2, n2, c2, rfl, T2⟩ := HS.out.str (K := [92, 118]) g1 o1 loc1; have S2 := Lib.hid T2; clear T2 o1 g1 loc1)
          exact ⟨inv_of _ (k + 1) A2 n2 c2 (m ++ [92, 118]) ⟨by omega, by have := S2.out; rw [HLL.out, List.append_assoc] at this; exact this, HBY.out ▸ HOUT.out, HPV.out⟩ (by kernel_rfl), by simp [intOf]; omega⟩
        · have hx' : wr.cell? (x.add k) = some (.int .u16 27) := by rw [hx, hc]; rfl
          have HBY := Lib.hid (show byt U q k = [92, 120, 49, 66] from by unfold byt; rw [hc]; rfl)
          have HNX := Lib.hid (show nxt U k = k + 1 by unfold nxt; rw [if_neg (by unfold pair; rw [hc]; simp)])
          have HPV : Hid (Pv U (k + 1)) := Lib.hid trivial
          have HOUT : Hid (m ++ byt U q k ++ rest U q (k + 1) = rest U q 0) := Lib.hid (by rw [← HNX.out, List.append_assoc, ← rest_step U q k hk]; exact HM.out)
          clear hx hc
          go_wp2_with (at_builtin; refine wp_append_str _ rfl (.tmp 313) (.const (.string { data := #[92, 120, 49, 66] })) 25 9 5 rfl Tryf.underlying25 Tryf.underlying9 infoB (.slice A n c) L base rfl HS.out.sl.own { data := #[92, 120, 49, 66] } rfl (by show _ + 4 ≤ _; omega) HBZ.out ?_; intro v1 w1 o1 g1 loc1; obtain ⟨A2, n2, c2, rfl, T2⟩ := HS.out.str (K := [92, 120, 49, 66]) g1 o1 loc1; have S2 := Lib.hid T2; clear T2 o1 g1 loc1)
          exact ⟨inv_of _ (k + 1) A2 n2 c2 (m ++ [92, 120, 49, 66]) ⟨by omega, by have := S2.out; rw [HLL.out, List.append_assoc] at this; exact this, HBY.out ▸ HOUT.out, HPV.out⟩ (by kernel_rfl), by simp [intOf]; omega⟩
        · have hx' : wr.cell? (x.add k) = some (.int .u16 92) := by rw [hx, hc]; rfl
          have HBY := Lib.hid (show byt U q k = [92, 92] from by unfold byt; rw [hc]; rfl)
          have HNX := Lib.hid (show nxt U k = k + 1 by unfold nxt; rw [if_neg (by unfold pair; rw [hc]; simp)])
          have HPV : Hid (Pv U (k + 1)) := Lib.hid trivial
          have HOUT : Hid (m ++ byt U q k ++ rest U q (k + 1) = rest U q 0) := Lib.hid (by rw [← HNX.out, List.append_assoc, ← rest_step U q k hk]; exact HM.out)
          clear hx hc
          go_wp2_with (at_builtin; refine wp_append_str _ rfl (.tmp 317) (.const (.string { data := #[92, 92] })) 25 9 5 rfl Tryf.underlying25 Tryf.underlying9 infoB (.slice A n c) L base rfl HS.out.sl.own { data := #[92, 92] } rfl (by show _ + 2 ≤ _; omega) HBZ.out ?_; intro v1 w1 o1 g1 loc1; obtain ⟨A2, n2, c2, rfl, T2⟩ := HS.out.str (K := [92, 92]) g1 o1 loc1; have S2 := Lib.hid T2; clear T2 o1 g1 loc1)
          exact ⟨inv_of _ (k + 1) A2 n2 c2 (m ++ [92, 92]) ⟨by omega, by have := S2.out; rw [HLL.out, List.append_assoc] at this; exact this, HBY.out ▸ HOUT.out, HPV.out⟩ (by kernel_rfl), by simp [intOf]; omega⟩
        · have H26 := Lib.hid (fun w => has26 mi w)
          have hc24 := hP.cells.2.1
          by_cases hk1 : 1 ≤ k
          · obtain ⟨k', hk'⟩ : ∃ k', k = k' + 1 := ⟨k - 1, by omega⟩
            have hsub : (k : Int) + 1 - 2 = (k' : Int) := by omega
            have hge : (2 : Int) ≤ (k : Int) + 1 := by omega
            obtain ⟨x', hx'', hxb', he⟩ := HU.out.at_ HS.out.sl.grown k' (by omega)
            injection hx'' with hx''
            subst hx''
            have hidx : k + 1 - 2 = k' := by omega
            obtain ⟨ee, hee⟩ : ∃ ee, ee = U.getD k' 0 := ⟨_, rfl⟩
            rw [← hee] at he
            have HEE := Lib.hid hee
            have HIX := Lib.hid hidx
            have hk'l : k' < U.length := by omega
            have hk0' : (0 : Int) ≤ (k' : Int) := by omega
            clear hee hidx hk'
            by_cases h60 : ee = 60
            · have t1 : ((ee : Int) == 60) = true := by rw [beq_iff_eq]; omega
              by_cases hlen : k + 1 + 6 ≤ U.length
              · have t2 : (k : Int) + 1 + 6 ≤ (U.length : Int) := by omega
                have HTG := Lib.hid (show decide (2 ≤ k + 1 ∧ U.getD (k + 1 - 2) 0 = 60 ∧ k + 1 + 6 ≤ U.length) = true from decide_eq_true ⟨by omega, by rw [HIX.out, ← HEE.out, h60], hlen⟩)
                have hx' : wr.cell? (x.add k) = some (.int .u16 47) := by rw [hx, hc]; rfl
                have HNX := Lib.hid (show nxt U k = k + 1 by unfold nxt; rw [if_neg (by unfold pair; rw [hc]; simp)])
                have HPV : Hid (Pv U (k + 1)) := Lib.hid trivial
                have HOUT : Hid (m ++ byt U q k ++ rest U q (k + 1) = rest U q 0) := Lib.hid (by rw [← HNX.out, List.append_assoc, ← rest_step U q k hk]; exact HM.out)
                have HC := Lib.hid hc
                clear hx hc h60
                go_wp2_with (first | (go_at_call 15; refine (H26.out _).mono ?_; rintro e w7 ⟨rfl, rfl⟩) | fail)
                clear hx' he t1 hc24
                refine wp_loop (Inv2 w wr pb c1 x F U q k A n c) (fun a' _ => 6 - (intOf (a'.tmps.getD 17 undef)).toNat) ?_ ?_
                · exact inv2_of _ 0 (by omega) (fun i hi => absurd hi (Nat.not_lt_zero _)) (by kernel_rfl)
                · rintro a' w' ⟨rfl, j, u, hj, hall, rfl⟩
                  have HALL := Lib.hid hall
                  clear hall
                  by_cases hj6 : j < 6
                  · obtain ⟨x', hx'', hxb', hd⟩ := HU.out.at_ HS.out.sl.grown (k + 1 + j) (by omega)
                    injection hx'' with hx''
                    subst hx''
                    obtain ⟨aa, haa⟩ : ∃ aa, aa = U.getD (k + 1 + j) 0 := ⟨_, rfl⟩
                    have hw2 := (HW.out (k + 1 + j) (by omega))
                    rw [← haa] at hd hw2
                    have HAA := Lib.hid haa
                    have hs6 : j < ({ data := #[115, 99, 114, 105, 112, 116] } : ByteArray).size := by show j < 6; exact hj6
                    obtain ⟨ch, hch⟩ : ∃ ch : UInt8, ({ data := #[115, 99, 114, 105, 112, 116] } : ByteArray)[j]'hs6 = ch := ⟨_, rfl⟩
                    have HCH := Lib.hid (show scrL.getD j 0 = ch.toNat by rw [scr_ch j hj6 hs6, hch])
                    have ch256 := ch.toNat_lt
                    have b1 : (k : Int) + 1 + (j : Int) < (U.length : Int) := by omega
                    have b2 : (j : Int) < 6 := by omega
                    clear haa
                    have step : Hid (lowc aa = ch.toNat → ∀ i, i < j + 1 → lowc (U.getD (k + 1 + i) 0) = scrL.getD i 0) := Lib.hid fun h i hi => by
                      rcases Nat.lt_or_ge i j with g | g
                      · exact HALL.out i g
                      · obtain rfl : i = j := by omega
                        rw [← HAA.out, HCH.out]; exact h
                    have miss : Hid (lowc aa ≠ ch.toNat → byt U q k = [47]) := Lib.hid fun h => by
                      have hc := HC.out
                      unfold byt; rw [hc]; show byt2 U q k = _; unfold byt2
                      rw [if_neg (by rw [hc]; decide), if_neg (by rw [hc]; decide), if_pos hc, if_neg (by unfold tag; rw [scr_no hj6 (by rw [← HAA.out, HCH.out]; exact h)]; simp)]
                    have tt : (65 ≤ aa ∧ aa ≤ 90) ∨ aa < 65 ∨ (65 ≤ aa ∧ 90 < aa) := by omega
                    rcases tt with ⟨g1, g2⟩ | g1 | ⟨g1, g2⟩
                    · have u1 : (65 : Int) ≤ (aa : Int) := by omega
                      have u2 : (aa : Int) ≤ 90 := by omega
                      have hlow : lowc aa = aa + 32 := by unfold lowc; rw [if_pos ⟨g1, g2⟩]
                      by_cases hm' : aa + 32 = ch.toNat
                      · have u3 : ((aa : Int) + 32 != (ch.toNat : Int)) = false := by rw [bne_eq_false_iff_eq]; omega
                        have ST := Lib.hid (step.out (by rw [hlow]; exact hm'))
                        clear hm' hlow
                        go_wp2_with (fail)
                        exact ⟨inv2_of _ (j + 1) (by omega) ST.out (by kernel_rfl), by simp [intOf]; omega⟩
                      · have u3 : ((aa : Int) + 32 != (ch.toNat : Int)) = true := by rw [bne_iff_ne]; omega
                        have HBY := Lib.hid (miss.out (by rw [hlow]; exact hm'))
                        clear hm' hlow
                        go_wp2_with (at_builtin; refine append_any _ rfl (.tmp 376) (.tmp 377) 25 5 rfl base Tryf.underlying25 (.int .u8 0) 1 rfl (by omega) infoB (.slice A n c) (bv (L)) rfl (HS.out.sl.own.alloc _) (wr.heap.size + 1) (some ⟨wr.heap.size, 0, none⟩) 1 1 [.int .u8 47] rfl rfl (rd_cells _ _ _) (one_u8 [47]) (by rw [bv_len]; first | omega | (rw [List.length_append]; simp only [List.length_cons, List.length_nil]; omega)) (le_alloc HBZ.out _) ?_; intro vw1 w1 o1 g1 at1; obtain ⟨A2, n2, c2, rfl, T2⟩ := HS.out.byte (K := [47]) g1 o1 at1; have S2 := Lib.hid T2; clear T2 o1 g1 at1)
                        exact ⟨inv_of _ (k + 1) A2 n2 c2 (m ++ [47]) ⟨by omega, by have := S2.out; rw [HLL.out, List.append_assoc] at this; exact this, HBY.out ▸ HOUT.out, HPV.out⟩ (by kernel_rfl), by simp [intOf]; omega⟩
                    · have u1 : ¬ (65 : Int) ≤ (aa : Int) := by omega
                      have hlow : lowc aa = aa := by unfold lowc; rw [if_neg (by omega)]
                      by_cases hm' : aa = ch.toNat
                      · have u3 : ((aa : Int) != (ch.toNat : Int)) = false := by rw [bne_eq_false_iff_eq]; omega
                        have ST := Lib.hid (step.out (by rw [hlow]; exact hm'))
                        clear hm' hlow
                        go_wp2_with (fail)
                        exact ⟨inv2_of _ (j + 1) (by omega) ST.out (by kernel_rfl), by simp [intOf]; omega⟩
                      · have u3 : ((aa : Int) != (ch.toNat : Int)) = true := by rw [bne_iff_ne]; omega
                        have HBY := Lib.hid (miss.out (by rw [hlow]; exact hm'))
                        clear hm' hlow
                        go_wp2_with (at_builtin; refine append_any _ rfl (.tmp 376) (.tmp 377) 25 5 rfl base Tryf.underlying25 (.int .u8 0) 1 rfl (by omega) infoB (.slice A n c) (bv (L)) rfl (HS.out.sl.own.alloc _) (wr.heap.size + 1) (some ⟨wr.heap.size, 0, none⟩) 1 1 [.int .u8 47] rfl rfl (rd_cells _ _ _) (one_u8 [47]) (by rw [bv_len]; first | omega | (rw [List.length_append]; simp only [List.length_cons, List.length_nil]; omega)) (le_alloc HBZ.out _) ?_; intro vw1 w1 o1 g1 at1; obtain ⟨A2, n2, c2, rfl, T2⟩ := HS.out.byte (K := [47]) g1 o1 at1; have S2 := Lib.hid T2; clear T2 o1 g1 at1)
                        exact ⟨inv_of _ (k + 1) A2 n2 c2 (m ++ [47]) ⟨by omega, by have := S2.out; rw [HLL.out, List.append_assoc] at this; exact this, HBY.out ▸ HOUT.out, HPV.out⟩ (by kernel_rfl), by simp [intOf]; omega⟩
                    · have u1 : (65 : Int) ≤ (aa : Int) := by omega
                      have u2 : ¬ (aa : Int) ≤ 90 := by omega
                      have hlow : lowc aa = aa := by unfold lowc; rw [if_neg (by omega)]
                      by_cases hm' : aa = ch.toNat
                      · have u3 : ((aa : Int) != (ch.toNat : Int)) = false := by rw [bne_eq_false_iff_eq]; omega
                        have ST := Lib.hid (step.out (by rw [hlow]; exact hm'))
                        clear hm' hlow
                        go_wp2_with (fail)
                        exact ⟨inv2_of _ (j + 1) (by omega) ST.out (by kernel_rfl), by simp [intOf]; omega⟩
                      · have u3 : ((aa : Int) != (ch.toNat : Int)) = true := by rw [bne_iff_ne]; omega
                        have HBY := Lib.hid (miss.out (by rw [hlow]; exact hm'))
                        clear hm' hlow
                        go_wp2_with (at_builtin; refine append_any _ rfl (.tmp 376) (.tmp 377) 25 5 rfl base Tryf.underlying25 (.int .u8 0) 1 rfl (by omega) infoB (.slice A n c) (bv (L)) rfl (HS.out.sl.own.alloc _) (wr.heap.size + 1) (some ⟨wr.heap.size, 0, none⟩) 1 1 [.int .u8 47] rfl rfl (rd_cells _ _ _) (one_u8 [47]) (by rw [bv_len]; first | omega | (rw [List.length_append]; simp only [List.length_cons, List.length_nil]; omega)) (le_alloc HBZ.out _) ?_; intro vw1 w1 o1 g1 at1; obtain ⟨A2, n2, c2, rfl, T2⟩ := HS.out.byte (K := [47]) g1 o1 at1; have S2 := Lib.hid T2; clear T2 o1 g1 at1)
                        exact ⟨inv_of _ (k + 1) A2 n2 c2 (m ++ [47]) ⟨by omega, by have := S2.out; rw [HLL.out, List.append_assoc] at this; exact this, HBY.out ▸ HOUT.out, HPV.out⟩ (by kernel_rfl), by simp [intOf]; omega⟩
                  · obtain rfl : j = 6 := by omega
                    have HBY := Lib.hid (show byt U q k = [92, 47] by
                      have hc := HC.out
                      unfold byt; rw [hc]; show byt2 U q k = _; unfold byt2
                      rw [if_neg (by rw [hc]; decide), if_neg (by rw [hc]; decide), if_pos hc, if_pos (by unfold tag; rw [HTG.out, scr_yes HALL.out]; rfl)])
                    go_upto_region 77 with (at_builtin; refine append_any _ rfl (.tmp 373) (.tmp 374) 25 5 rfl base Tryf.underlying25 (.int .u8 0) 1 rfl (by omega) infoB (.slice A n c) (bv (L)) rfl (HS.out.sl.own.alloc _) (wr.heap.size + 1) (some ⟨wr.heap.size, 0, none⟩) 1 1 [.int .u8 92] rfl rfl (rd_cells _ _ _) (one_u8 [92]) (by rw [bv_len]; first | omega | (rw [List.length_append]; simp only [List.length_cons, List.length_nil]; omega)) (le_alloc HBZ.out _) ?_; intro vw1 w1 o1 g1 at1; obtain ⟨A2, n2, c2, rfl, T2⟩ := HS.out.byte (K := [92]) g1 o1 at1; have S2 := Lib.hid T2; clear T2 o1 g1 at1)
                    have HBZ1 := Lib.hid (show base ≤ w1.heap.size by have := S2.out.sl.grown.size; omega)
                    have hml1 : (L ++ [92]).length + 7 ≤ 1073741824 := by rw [List.length_append]; simp only [List.length_cons, List.length_nil]; omega
                    go_wp2_with (at_builtin; refine append_any _ rfl (.tmp 376) (.tmp 377) 25 5 rfl base Tryf.underlying25 (.int .u8 0) 1 rfl (by omega) infoB (.slice A2 n2 c2) (bv ((L ++ [92]))) rfl (S2.out.sl.own.alloc _) (w1.heap.size + 1) (some ⟨w1.heap.size, 0, none⟩) 1 1 [.int .u8 47] rfl rfl (rd_cells _ _ _) (one_u8 [47]) (by rw [bv_len]; first | omega | (rw [List.length_append]; simp only [List.length_cons, List.length_nil]; omega)) (le_alloc HBZ1.out _) ?_; intro vw2 w2 o1 g1 at1; obtain ⟨A3, n3, c3, rfl, T2⟩ := S2.out.byte (K := [47]) g1 o1 at1; have S3 := Lib.hid T2; clear T2 o1 g1 at1)
                    exact ⟨inv_of _ (k + 1) A3 n3 c3 (m ++ [92, 47]) ⟨by omega, by have := S3.out; rw [HLL.out, List.append_assoc, List.append_assoc] at this; exact this, HBY.out ▸ HOUT.out, HPV.out⟩ (by kernel_rfl), by simp [intOf]; omega⟩
              · have t2 : ¬ (k : Int) + 1 + 6 ≤ (U.length : Int) := by omega
                have hx' : wr.cell? (x.add k) = some (.int .u16 47) := by rw [hx, hc]; rfl
                have HBY := Lib.hid (show byt U q k = [47] from by unfold byt; rw [hc]; show byt2 U q k = _; unfold byt2; rw [if_neg (by rw [hc]; decide), if_neg (by rw [hc]; decide), if_pos hc, if_neg (by unfold tag; rw [decide_eq_false (fun h => hlen h.2.2)]; simp)])
                have HNX := Lib.hid (show nxt U k = k + 1 by unfold nxt; rw [if_neg (by unfold pair; rw [hc]; simp)])
                have HPV : Hid (Pv U (k + 1)) := Lib.hid trivial
                have HOUT : Hid (m ++ byt U q k ++ rest U q (k + 1) = rest U q 0) := Lib.hid (by rw [← HNX.out, List.append_assoc, ← rest_step U q k hk]; exact HM.out)
                clear hx hc
                try clear hqc
                clear h60
                go_wp2_with (first | (go_at_call 15; refine (H26.out _).mono ?_; rintro e w7 ⟨rfl, rfl⟩) | (at_builtin; refine append_any _ rfl (.tmp 376) (.tmp 377) 25 5 rfl base Tryf.underlying25 (.int .u8 0) 1 rfl (by omega) infoB (.slice A n c) (bv (L)) rfl (HS.out.sl.own.alloc _) (wr.heap.size + 1) (some ⟨wr.heap.size, 0, none⟩) 1 1 [.int .u8 47] rfl rfl (rd_cells _ _ _) (one_u8 [47]) (by rw [bv_len]; first | omega | (rw [List.length_append]; simp only [List.length_cons, List.length_nil]; omega)) (le_alloc HBZ.out _) ?_; intro vw1 w1 o1 g1 at1; obtain ⟨A2, n2, c2, rfl, T2⟩ := HS.out.byte (K := [47]) g1 o1 at1; have S2 := Lib.hid T2; clear T2 o1 g1 at1))
                exact ⟨inv_of _ (k + 1) A2 n2 c2 (m ++ [47]) ⟨by omega, by have := S2.out; rw [HLL.out, List.append_assoc] at this; exact this, HBY.out ▸ HOUT.out, HPV.out⟩ (by kernel_rfl), by simp [intOf]; omega⟩
            · have t1 : ((ee : Int) == 60) = false := by rw [beq_eq_false_iff_ne]; omega
              have hx' : wr.cell? (x.add k) = some (.int .u16 47) := by rw [hx, hc]; rfl
              have HBY := Lib.hid (show byt U q k = [47] from by unfold byt; rw [hc]; show byt2 U q k = _; unfold byt2; rw [if_neg (by rw [hc]; decide), if_neg (by rw [hc]; decide), if_pos hc, if_neg (by unfold tag; rw [decide_eq_false (fun h => h60 (by rw [HEE.out, ← HIX.out]; exact h.2.1))]; simp)])
              have HNX := Lib.hid (show nxt U k = k + 1 by unfold nxt; rw [if_neg (by unfold pair; rw [hc]; simp)])
              have HPV : Hid (Pv U (k + 1)) := Lib.hid trivial
              have HOUT : Hid (m ++ byt U q k ++ rest U q (k + 1) = rest U q 0) := Lib.hid (by rw [← HNX.out, List.append_assoc, ← rest_step U q k hk]; exact HM.out)
              clear hx hc
              try clear hqc
              go_wp2_with (first | (go_at_call 15; refine (H26.out _).mono ?_; rintro e w7 ⟨rfl, rfl⟩) | (at_builtin; refine append_any _ rfl (.tmp 376) (.tmp 377) 25 5 rfl base Tryf.underlying25 (.int .u8 0) 1 rfl (by omega) infoB (.slice A n c) (bv (L)) rfl (HS.out.sl.own.alloc _) (wr.heap.size + 1) (some ⟨wr.heap.size, 0, none⟩) 1 1 [.int .u8 47] rfl rfl (rd_cells _ _ _) (one_u8 [47]) (by rw [bv_len]; first | omega | (rw [List.length_append]; simp only [List.length_cons, List.length_nil]; omega)) (le_alloc HBZ.out _) ?_; intro vw1 w1 o1 g1 at1; obtain ⟨A2, n2, c2, rfl, T2⟩ := HS.out.byte (K := [47]) g1 o1 at1; have S2 := Lib.hid T2; clear T2 o1 g1 at1))
              exact ⟨inv_of _ (k + 1) A2 n2 c2 (m ++ [47]) ⟨by omega, by have := S2.out; rw [HLL.out, List.append_assoc] at this; exact this, HBY.out ▸ HOUT.out, HPV.out⟩ (by kernel_rfl), by simp [intOf]; omega⟩
          · have hge : ¬ (2 : Int) ≤ (k : Int) + 1 := by omega
            have hx' : wr.cell? (x.add k) = some (.int .u16 47) := by rw [hx, hc]; rfl
            have HBY := Lib.hid (show byt U q k = [47] from by unfold byt; rw [hc]; show byt2 U q k = _; unfold byt2; rw [if_neg (by rw [hc]; decide), if_neg (by rw [hc]; decide), if_pos hc, if_neg (by unfold tag; rw [decide_eq_false (fun h => hk1 (by have := h.1; omega))]; simp)])
            have HNX := Lib.hid (show nxt U k = k + 1 by unfold nxt; rw [if_neg (by unfold pair; rw [hc]; simp)])
            have HPV : Hid (Pv U (k + 1)) := Lib.hid trivial
            have HOUT : Hid (m ++ byt U q k ++ rest U q (k + 1) = rest U q 0) := Lib.hid (by rw [← HNX.out, List.append_assoc, ← rest_step U q k hk]; exact HM.out)
            clear hx hc
            try clear hqc
            go_wp2_with (first | (go_at_call 15; refine (H26.out _).mono ?_; rintro e w7 ⟨rfl, rfl⟩) | (at_builtin; refine append_any _ rfl (.tmp 376) (.tmp 377) 25 5 rfl base Tryf.underlying25 (.int .u8 0) 1 rfl (by omega) infoB (.slice A n c) (bv (L)) rfl (HS.out.sl.own.alloc _) (wr.heap.size + 1) (some ⟨wr.heap.size, 0, none⟩) 1 1 [.int .u8 47] rfl rfl (rd_cells _ _ _) (one_u8 [47]) (by rw [bv_len]; first | omega | (rw [List.length_append]; simp only [List.length_cons, List.length_nil]; omega)) (le_alloc HBZ.out _) ?_; intro vw1 w1 o1 g1 at1; obtain ⟨A2, n2, c2, rfl, T2⟩ := HS.out.byte (K := [47]) g1 o1 at1; have S2 := Lib.hid T2; clear T2 o1 g1 at1))
            exact ⟨inv_of _ (k + 1) A2 n2 c2 (m ++ [47]) ⟨by omega, by have := S2.out; rw [HLL.out, List.append_assoc] at this; exact this, HBY.out ▸ HOUT.out, HPV.out⟩ (by kernel_rfl), by simp [intOf]; omega⟩
        · by_cases hqc : q = 39
          · have e1 : ((q : Int) == 39) = true := by rw [beq_iff_eq]; omega
            have hx' : wr.cell? (x.add k) = some (.int .u16 39) := by rw [hx, hc]; rfl
            have HBY := Lib.hid (show byt U q k = [92, 39] from by unfold byt; rw [hc]; show byt2 U q k = _; unfold byt2; rw [if_neg (by rw [hc]; decide), if_neg (by rw [hc]; decide), if_neg (by rw [hc]; decide), if_pos (by rw [hc]; decide)]; unfold esc1; rw [hc]; rw [if_pos hqc]; rfl)
            have HNX := Lib.hid (show nxt U k = k + 1 by unfold nxt; rw [if_neg (by unfold pair; rw [hc]; simp)])
            have HPV : Hid (Pv U (k + 1)) := Lib.hid trivial
            have HOUT : Hid (m ++ byt U q k ++ rest U q (k + 1) = rest U q 0) := Lib.hid (by rw [← HNX.out, List.append_assoc, ← rest_step U q k hk]; exact HM.out)
            clear hx hc
            try clear hqc
            go_upto_region 81 with (at_builtin; refine append_any _ rfl (.tmp 383) (.tmp 384) 25 5 rfl base Tryf.underlying25 (.int .u8 0) 1 rfl (by omega) infoB (.slice A n c) (bv (L)) rfl (HS.out.sl.own.alloc _) (wr.heap.size + 1) (some ⟨wr.heap.size, 0, none⟩) 1 1 [.int .u8 92] rfl rfl (rd_cells _ _ _) (one_u8 [92]) (by rw [bv_len]; first | omega | (rw [List.length_append]; simp only [List.length_cons, List.length_nil]; omega)) (le_alloc HBZ.out _) ?_; intro vw1 w1 o1 g1 at1; obtain ⟨A2, n2, c2, rfl, T2⟩ := HS.out.byte (K := [92]) g1 o1 at1; have S2 := Lib.hid T2; clear T2 o1 g1 at1)
            have HBZ1 := Lib.hid (show base ≤ w1.heap.size by have := S2.out.sl.grown.size; omega)
            have hml1 : (L ++ [92]).length + 7 ≤ 1073741824 := by rw [List.length_append]; simp only [List.length_cons, List.length_nil]; omega
            go_wp2_with (at_builtin; refine append_any _ rfl (.tmp 386) (.tmp 387) 25 5 rfl base Tryf.underlying25 (.int .u8 0) 1 rfl (by omega) infoB (.slice A2 n2 c2) (bv ((L ++ [92]))) rfl (S2.out.sl.own.alloc _) (w1.heap.size + 1) (some ⟨w1.heap.size, 0, none⟩) 1 1 [.int .u8 39] rfl rfl (rd_cells _ _ _) (one_u8 [39]) (by rw [bv_len]; first | omega | (rw [List.length_append]; simp only [List.length_cons, List.length_nil]; omega)) (le_alloc HBZ1.out _) ?_; intro vw2 w2 o1 g1 at1; obtain ⟨A3, n3, c3, rfl, T2⟩ := S2.out.byte (K := [39]) g1 o1 at1; have S3 := Lib.hid T2; clear T2 o1 g1 at1)
            exact ⟨inv_of _ (k + 1) A3 n3 c3 (m ++ [92, 39]) ⟨by omega, by have := S3.out; rw [HLL.out, List.append_assoc, List.append_assoc] at this; exact this, HBY.out ▸ HOUT.out, HPV.out⟩ (by kernel_rfl), by simp [intOf]; omega⟩
          · have e1 : ((q : Int) == 39) = false := by rw [beq_eq_false_iff_ne]; omega
            have hx' : wr.cell? (x.add k) = some (.int .u16 39) := by rw [hx, hc]; rfl
            have HBY := Lib.hid (show byt U q k = [39] from by unfold byt; rw [hc]; show byt2 U q k = _; unfold byt2; rw [if_neg (by rw [hc]; decide), if_neg (by rw [hc]; decide), if_neg (by rw [hc]; decide), if_pos (by rw [hc]; decide)]; unfold esc1; rw [hc]; rw [if_neg hqc]; rfl)
            have HNX := Lib.hid (show nxt U k = k + 1 by unfold nxt; rw [if_neg (by unfold pair; rw [hc]; simp)])
            have HPV : Hid (Pv U (k + 1)) := Lib.hid trivial
            have HOUT : Hid (m ++ byt U q k ++ rest U q (k + 1) = rest U q 0) := Lib.hid (by rw [← HNX.out, List.append_assoc, ← rest_step U q k hk]; exact HM.out)
            clear hx hc
            try clear hqc
            go_wp2_with (at_builtin; refine append_any _ rfl (.tmp 386) (.tmp 387) 25 5 rfl base Tryf.underlying25 (.int .u8 0) 1 rfl (by omega) infoB (.slice A n c) (bv (L)) rfl (HS.out.sl.own.alloc _) (wr.heap.size + 1) (some ⟨wr.heap.size, 0, none⟩) 1 1 [.int .u8 39] rfl rfl (rd_cells _ _ _) (one_u8 [39]) (by rw [bv_len]; first | omega | (rw [List.length_append]; simp only [List.length_cons, List.length_nil]; omega)) (le_alloc HBZ.out _) ?_; intro vw1 w1 o1 g1 at1; obtain ⟨A2, n2, c2, rfl, T2⟩ := HS.out.byte (K := [39]) g1 o1 at1; have S2 := Lib.hid T2; clear T2 o1 g1 at1)
            exact ⟨inv_of _ (k + 1) A2 n2 c2 (m ++ [39]) ⟨by omega, by have := S2.out; rw [HLL.out, List.append_assoc] at this; exact this, HBY.out ▸ HOUT.out, HPV.out⟩ (by kernel_rfl), by simp [intOf]; omega⟩
        · by_cases hqc : q = 34
          · have e1 : ((q : Int) == 34) = true := by rw [beq_iff_eq]; omega
            have hx' : wr.cell? (x.add k) = some (.int .u16 34) := by rw [hx, hc]; rfl
            have HBY := Lib.hid (show byt U q k = [92, 34] from by unfold byt; rw [hc]; show byt2 U q k = _; unfold byt2; rw [if_neg (by rw [hc]; decide), if_neg (by rw [hc]; decide), if_neg (by rw [hc]; decide), if_pos (by rw [hc]; decide)]; unfold esc1; rw [hc]; rw [if_pos hqc]; rfl)
            have HNX := Lib.hid (show nxt U k = k + 1 by unfold nxt; rw [if_neg (by unfold pair; rw [hc]; simp)])
            have HPV : Hid (Pv U (k + 1)) := Lib.hid trivial
            have HOUT : Hid (m ++ byt U q k ++ rest U q (k + 1) = rest U q 0) := Lib.hid (by rw [← HNX.out, List.append_assoc, ← rest_step U q k hk]; exact HM.out)
            clear hx hc
            try clear hqc
            go_upto_region 85 with (at_builtin; refine append_any _ rfl (.tmp 393) (.tmp 394) 25 5 rfl base Tryf.underlying25 (.int .u8 0) 1 rfl (by omega) infoB (.slice A n c) (bv (L)) rfl (HS.out.sl.own.alloc _) (wr.heap.size + 1) (some ⟨wr.heap.size, 0, none⟩) 1 1 [.int .u8 92] rfl rfl (rd_cells _ _ _) (one_u8 [92]) (by rw [bv_len]; first | omega | (rw [List.length_append]; simp only [List.length_cons, List.length_nil]; omega)) (le_alloc HBZ.out _) ?_; intro vw1 w1 o1 g1 at1; obtain ⟨A2, n2, c2, rfl, T2⟩ := HS.out.byte (K := [92]) g1 o1 at1; have S2 := Lib.hid T2; clear T2 o1 g1 at1)
            have HBZ1 := Lib.hid (show base ≤ w1.heap.size by have := S2.out.sl.grown.size; omega)
            have hml1 : (L ++ [92]).length + 7 ≤ 1073741824 := by rw [List.length_append]; simp only [List.length_cons, List.length_nil]; omega
            go_wp2_with (at_builtin; refine append_any _ rfl (.tmp 396) (.tmp 397) 25 5 rfl base Tryf.underlying25 (.int .u8 0) 1 rfl (by omega) infoB (.slice A2 n2 c2) (bv ((L ++ [92]))) rfl (S2.out.sl.own.alloc _) (w1.heap.size + 1) (some ⟨w1.heap.size, 0, none⟩) 1 1 [.int .u8 34] rfl rfl (rd_cells _ _ _) (one_u8 [34]) (by rw [bv_len]; first | omega | (rw [List.length_append]; simp only [List.length_cons, List.length_nil]; omega)) (le_alloc HBZ1.out _) ?_; intro vw2 w2 o1 g1 at1; obtain ⟨A3, n3, c3, rfl, T2⟩ := S2.out.byte (K := [34]) g1 o1 at1; have S3 := Lib.hid T2; clear T2 o1 g1 at1)
            exact ⟨inv_of _ (k + 1) A3 n3 c3 (m ++ [92, 34]) ⟨by omega, by have := S3.out; rw [HLL.out, List.append_assoc, List.append_assoc] at this; exact this, HBY.out ▸ HOUT.out, HPV.out⟩ (by kernel_rfl), by simp [intOf]; omega⟩
          · have e1 : ((q : Int) == 34) = false := by rw [beq_eq_false_iff_ne]; omega
            have hx' : wr.cell? (x.add k) = some (.int .u16 34) := by rw [hx, hc]; rfl
            have HBY := Lib.hid (show byt U q k = [34] from by unfold byt; rw [hc]; show byt2 U q k = _; unfold byt2; rw [if_neg (by rw [hc]; decide), if_neg (by rw [hc]; decide), if_neg (by rw [hc]; decide), if_pos (by rw [hc]; decide)]; unfold esc1; rw [hc]; rw [if_neg hqc]; rfl)
            have HNX := Lib.hid (show nxt U k = k + 1 by unfold nxt; rw [if_neg (by unfold pair; rw [hc]; simp)])
            have HPV : Hid (Pv U (k + 1)) := Lib.hid trivial
            have HOUT : Hid (m ++ byt U q k ++ rest U q (k + 1) = rest U q 0) := Lib.hid (by rw [← HNX.out, List.append_assoc, ← rest_step U q k hk]; exact HM.out)
            clear hx hc
            try clear hqc
            go_wp2_with (at_builtin; refine append_any _ rfl (.tmp 396) (.tmp 397) 25 5 rfl base Tryf.underlying25 (.int .u8 0) 1 rfl (by omega) infoB (.slice A n c) (bv (L)) rfl (HS.out.sl.own.alloc _) (wr.heap.size + 1) (some ⟨wr.heap.size, 0, none⟩) 1 1 [.int .u8 34] rfl rfl (rd_cells _ _ _) (one_u8 [34]) (by rw [bv_len]; first | omega | (rw [List.length_append]; simp only [List.length_cons, List.length_nil]; omega)) (le_alloc HBZ.out _) ?_; intro vw1 w1 o1 g1 at1; obtain ⟨A2, n2, c2, rfl, T2⟩ := HS.out.byte (K := [34]) g1 o1 at1; have S2 := Lib.hid T2; clear T2 o1 g1 at1)
            exact ⟨inv_of _ (k + 1) A2 n2 c2 (m ++ [34]) ⟨by omega, by have := S2.out; rw [HLL.out, List.append_assoc] at this; exact this, HBY.out ▸ HOUT.out, HPV.out⟩ (by kernel_rfl), by simp [intOf]; omega⟩
        · by_cases hqc : q = 96
          · have e1 : ((q : Int) == 96) = true := by rw [beq_iff_eq]; omega
            have hx' : wr.cell? (x.add k) = some (.int .u16 96) := by rw [hx, hc]; rfl
            have HBY := Lib.hid (show byt U q k = [92, 96] from by unfold byt; rw [hc]; show byt2 U q k = _; unfold byt2; rw [if_neg (by rw [hc]; decide), if_neg (by rw [hc]; decide), if_neg (by rw [hc]; decide), if_pos (by rw [hc]; decide)]; unfold esc1; rw [hc]; rw [if_pos hqc]; rfl)
            have HNX := Lib.hid (show nxt U k = k + 1 by unfold nxt; rw [if_neg (by unfold pair; rw [hc]; simp)])
            have HPV : Hid (Pv U (k + 1)) := Lib.hid trivial
            have HOUT : Hid (m ++ byt U q k ++ rest U q (k + 1) = rest U q 0) := Lib.hid (by rw [← HNX.out, List.append_assoc, ← rest_step U q k hk]; exact HM.out)
            clear hx hc
            try clear hqc
            go_upto_region 89 with (at_builtin; refine append_any _ rfl (.tmp 403) (.tmp 404) 25 5 rfl base Tryf.underlying25 (.int .u8 0) 1 rfl (by omega) infoB (.slice A n c) (bv (L)) rfl (HS.out.sl.own.alloc _) (wr.heap.size + 1) (some ⟨wr.heap.size, 0, none⟩) 1 1 [.int .u8 92] rfl rfl (rd_cells _ _ _) (one_u8 [92]) (by rw [bv_len]; first | omega | (rw [List.length_append]; simp only [List.length_cons, List.length_nil]; omega)) (le_alloc HBZ.out _) ?_; intro vw1 w1 o1 g1 at1; obtain ⟨A2, n2, c2, rfl, T2⟩ := HS.out.byte (K := [92]) g1 o1 at1; have S2 := Lib.hid T2; clear T2 o1 g1 at1)
            have HBZ1 := Lib.hid (show base ≤ w1.heap.size by have := S2.out.sl.grown.size; omega)
            have hml1 : (L ++ [92]).length + 7 ≤ 1073741824 := by rw [List.length_append]; simp only [List.length_cons, List.length_nil]; omega
            go_wp2_with (at_builtin; refine append_any _ rfl (.tmp 406) (.tmp 407) 25 5 rfl base Tryf.underlying25 (.int .u8 0) 1 rfl (by omega) infoB (.slice A2 n2 c2) (bv ((L ++ [92]))) rfl (S2.out.sl.own.alloc _) (w1.heap.size + 1) (some ⟨w1.heap.size, 0, none⟩) 1 1 [.int .u8 96] rfl rfl (rd_cells _ _ _) (one_u8 [96]) (by rw [bv_len]; first | omega | (rw [List.length_append]; simp only [List.length_cons, List.length_nil]; omega)) (le_alloc HBZ1.out _) ?_; intro vw2 w2 o1 g1 at1; obtain ⟨A3, n3, c3, rfl, T2⟩ := S2.out.byte (K := [96]) g1 o1 at1; have S3 := Lib.hid T2; clear T2 o1 g1 at1)
            exact ⟨inv_of _ (k + 1) A3 n3 c3 (m ++ [92, 96]) ⟨by omega, by have := S3.out; rw [HLL.out, List.append_assoc, List.append_assoc] at this; exact this, HBY.out ▸ HOUT.out, HPV.out⟩ (by kernel_rfl), by simp [intOf]; omega⟩
          · have e1 : ((q : Int) == 96) = false := by rw [beq_eq_false_iff_ne]; omega
            have hx' : wr.cell? (x.add k) = some (.int .u16 96) := by rw [hx, hc]; rfl
            have HBY := Lib.hid (show byt U q k = [96] from by unfold byt; rw [hc]; show byt2 U q k = _; unfold byt2; rw [if_neg (by rw [hc]; decide), if_neg (by rw [hc]; decide), if_neg (by rw [hc]; decide), if_pos (by rw [hc]; decide)]; unfold esc1; rw [hc]; rw [if_neg hqc]; rfl)
            have HNX := Lib.hid (show nxt U k = k + 1 by unfold nxt; rw [if_neg (by unfold pair; rw [hc]; simp)])
            have HPV : Hid (Pv U (k + 1)) := Lib.hid trivial
            have HOUT : Hid (m ++ byt U q k ++ rest U q (k + 1) = rest U q 0) := Lib.hid (by rw [← HNX.out, List.append_assoc, ← rest_step U q k hk]; exact HM.out)
            clear hx hc
            try clear hqc
            go_wp2_with (at_builtin; refine append_any _ rfl (.tmp 406) (.tmp 407) 25 5 rfl base Tryf.underlying25 (.int .u8 0) 1 rfl (by omega) infoB (.slice A n c) (bv (L)) rfl (HS.out.sl.own.alloc _) (wr.heap.size + 1) (some ⟨wr.heap.size, 0, none⟩) 1 1 [.int .u8 96] rfl rfl (rd_cells _ _ _) (one_u8 [96]) (by rw [bv_len]; first | omega | (rw [List.length_append]; simp only [List.length_cons, List.length_nil]; omega)) (le_alloc HBZ.out _) ?_; intro vw1 w1 o1 g1 at1; obtain ⟨A2, n2, c2, rfl, T2⟩ := HS.out.byte (K := [96]) g1 o1 at1; have S2 := Lib.hid T2; clear T2 o1 g1 at1)
            exact ⟨inv_of _ (k + 1) A2 n2 c2 (m ++ [96]) ⟨by omega, by have := S2.out; rw [HLL.out, List.append_assoc] at this; exact this, HBY.out ▸ HOUT.out, HPV.out⟩ (by kernel_rfl), by simp [intOf]; omega⟩
        · by_cases hqc : q = 96
          · have e1 : ((q : Int) == 96) = true := by rw [beq_iff_eq]; omega
            by_cases hd1 : k + 1 < U.length
            · obtain ⟨x', hx'', hxb', hd⟩ := HU.out.at_ HS.out.sl.grown (k + 1) hd1
              injection hx'' with hx''
              subst hx''
              rw [add_pos x (k + 1) (by omega)] at hd
              have t0 : (k : Int) + 1 < (U.length : Int) := by omega
              by_cases hd2 : U.getD (k + 1) 0 = 123
              · have hx' : wr.cell? (x.add k) = some (.int .u16 36) := by rw [hx, hc]; rfl
                have HBY := Lib.hid (show byt U q k = [92, 36] from by unfold byt; rw [hc]; show byt2 U q k = _; unfold byt2; rw [if_neg (by rw [hc]; decide), if_neg (by rw [hc]; decide), if_neg (by rw [hc]; decide), if_neg (by rw [hc]; decide), if_pos hc, if_pos ⟨hqc, hd1, hd2⟩])
                have HNX := Lib.hid (show nxt U k = k + 1 by unfold nxt; rw [if_neg (by unfold pair; rw [hc]; simp)])
                have HPV : Hid (Pv U (k + 1)) := Lib.hid trivial
                have HOUT : Hid (m ++ byt U q k ++ rest U q (k + 1) = rest U q 0) := Lib.hid (by rw [← HNX.out, List.append_assoc, ← rest_step U q k hk]; exact HM.out)
                clear hx hc
                try clear hqc
                obtain ⟨dd, hdd⟩ : ∃ dd, dd = U.getD (k + 1) 0 := ⟨_, rfl⟩
                rw [← hdd] at hd
                rw [← hdd] at hd2
                clear hdd
                have t1 : ((dd : Int) == 123) = true := by rw [beq_iff_eq]; omega
                clear hd2
                go_upto_region 93 with (at_builtin; refine append_any _ rfl (.tmp 425) (.tmp 426) 25 5 rfl base Tryf.underlying25 (.int .u8 0) 1 rfl (by omega) infoB (.slice A n c) (bv (L)) rfl (HS.out.sl.own.alloc _) (wr.heap.size + 1) (some ⟨wr.heap.size, 0, none⟩) 1 1 [.int .u8 92] rfl rfl (rd_cells _ _ _) (one_u8 [92]) (by rw [bv_len]; first | omega | (rw [List.length_append]; simp only [List.length_cons, List.length_nil]; omega)) (le_alloc HBZ.out _) ?_; intro vw1 w1 o1 g1 at1; obtain ⟨A2, n2, c2, rfl, T2⟩ := HS.out.byte (K := [92]) g1 o1 at1; have S2 := Lib.hid T2; clear T2 o1 g1 at1)
                have HBZ1 := Lib.hid (show base ≤ w1.heap.size by have := S2.out.sl.grown.size; omega)
                have hml1 : (L ++ [92]).length + 7 ≤ 1073741824 := by rw [List.length_append]; simp only [List.length_cons, List.length_nil]; omega
                go_wp2_with (at_builtin; refine append_any _ rfl (.tmp 428) (.tmp 429) 25 5 rfl base Tryf.underlying25 (.int .u8 0) 1 rfl (by omega) infoB (.slice A2 n2 c2) (bv ((L ++ [92]))) rfl (S2.out.sl.own.alloc _) (w1.heap.size + 1) (some ⟨w1.heap.size, 0, none⟩) 1 1 [.int .u8 36] rfl rfl (rd_cells _ _ _) (one_u8 [36]) (by rw [bv_len]; first | omega | (rw [List.length_append]; simp only [List.length_cons, List.length_nil]; omega)) (le_alloc HBZ1.out _) ?_; intro vw2 w2 o1 g1 at1; obtain ⟨A3, n3, c3, rfl, T2⟩ := S2.out.byte (K := [36]) g1 o1 at1; have S3 := Lib.hid T2; clear T2 o1 g1 at1)
                exact ⟨inv_of _ (k + 1) A3 n3 c3 (m ++ [92, 36]) ⟨by omega, by have := S3.out; rw [HLL.out, List.append_assoc, List.append_assoc] at this; exact this, HBY.out ▸ HOUT.out, HPV.out⟩ (by kernel_rfl), by simp [intOf]; omega⟩
              · have hx' : wr.cell? (x.add k) = some (.int .u16 36) := by rw [hx, hc]; rfl
                have HBY := Lib.hid (show byt U q k = [36] from by unfold byt; rw [hc]; show byt2 U q k = _; unfold byt2; rw [if_neg (by rw [hc]; decide), if_neg (by rw [hc]; decide), if_neg (by rw [hc]; decide), if_neg (by rw [hc]; decide), if_pos hc, if_neg (fun h => hd2 h.2.2)])
                have HNX := Lib.hid (show nxt U k = k + 1 by unfold nxt; rw [if_neg (by unfold pair; rw [hc]; simp)])
                have HPV : Hid (Pv U (k + 1)) := Lib.hid trivial
                have HOUT : Hid (m ++ byt U q k ++ rest U q (k + 1) = rest U q 0) := Lib.hid (by rw [← HNX.out, List.append_assoc, ← rest_step U q k hk]; exact HM.out)
                clear hx hc
                try clear hqc
                obtain ⟨dd, hdd⟩ : ∃ dd, dd = U.getD (k + 1) 0 := ⟨_, rfl⟩
                rw [← hdd] at hd
                rw [← hdd] at hd2
                clear hdd
                have t1 : ((dd : Int) == 123) = false := by rw [beq_eq_false_iff_ne]; omega
                clear hd2
                go_wp2_with (at_builtin; refine append_any _ rfl (.tmp 428) (.tmp 429) 25 5 rfl base Tryf.underlying25 (.int .u8 0) 1 rfl (by omega) infoB (.slice A n c) (bv (L)) rfl (HS.out.sl.own.alloc _) (wr.heap.size + 1) (some ⟨wr.heap.size, 0, none⟩) 1 1 [.int .u8 36] rfl rfl (rd_cells _ _ _) (one_u8 [36]) (by rw [bv_len]; first | omega | (rw [List.length_append]; simp only [List.length_cons, List.length_nil]; omega)) (le_alloc HBZ.out _) ?_; intro vw1 w1 o1 g1 at1; obtain ⟨A2, n2, c2, rfl, T2⟩ := HS.out.byte (K := [36]) g1 o1 at1; have S2 := Lib.hid T2; clear T2 o1 g1 at1)
                exact ⟨inv_of _ (k + 1) A2 n2 c2 (m ++ [36]) ⟨by omega, by have := S2.out; rw [HLL.out, List.append_assoc] at this; exact this, HBY.out ▸ HOUT.out, HPV.out⟩ (by kernel_rfl), by simp [intOf]; omega⟩
            · have t0 : ¬ (k : Int) + 1 < (U.length : Int) := by omega
              have hx' : wr.cell? (x.add k) = some (.int .u16 36) := by rw [hx, hc]; rfl
              have HBY := Lib.hid (show byt U q k = [36] from by unfold byt; rw [hc]; show byt2 U q k = _; unfold byt2; rw [if_neg (by rw [hc]; decide), if_neg (by rw [hc]; decide), if_neg (by rw [hc]; decide), if_neg (by rw [hc]; decide), if_pos hc, if_neg (fun h => hd1 h.2.1)])
              have HNX := Lib.hid (show nxt U k = k + 1 by unfold nxt; rw [if_neg (by unfold pair; rw [hc]; simp)])
              have HPV : Hid (Pv U (k + 1)) := Lib.hid trivial
              have HOUT : Hid (m ++ byt U q k ++ rest U q (k + 1) = rest U q 0) := Lib.hid (by rw [← HNX.out, List.append_assoc, ← rest_step U q k hk]; exact HM.out)
              clear hx hc
              try clear hqc
              go_wp2_with (at_builtin; refine append_any _ rfl (.tmp 428) (.tmp 429) 25 5 rfl base Tryf.underlying25 (.int .u8 0) 1 rfl (by omega) infoB (.slice A n c) (bv (L)) rfl (HS.out.sl.own.alloc _) (wr.heap.size + 1) (some ⟨wr.heap.size, 0, none⟩) 1 1 [.int .u8 36] rfl rfl (rd_cells _ _ _) (one_u8 [36]) (by rw [bv_len]; first | omega | (rw [List.length_append]; simp only [List.length_cons, List.length_nil]; omega)) (le_alloc HBZ.out _) ?_; intro vw1 w1 o1 g1 at1; obtain ⟨A2, n2, c2, rfl, T2⟩ := HS.out.byte (K := [36]) g1 o1 at1; have S2 := Lib.hid T2; clear T2 o1 g1 at1)
              exact ⟨inv_of _ (k + 1) A2 n2 c2 (m ++ [36]) ⟨by omega, by have := S2.out; rw [HLL.out, List.append_assoc] at this; exact this, HBY.out ▸ HOUT.out, HPV.out⟩ (by kernel_rfl), by simp [intOf]; omega⟩
          · have e1 : ((q : Int) == 96) = false := by rw [beq_eq_false_iff_ne]; omega
            have hx' : wr.cell? (x.add k) = some (.int .u16 36) := by rw [hx, hc]; rfl
            have HBY := Lib.hid (show byt U q k = [36] from by unfold byt; rw [hc]; show byt2 U q k = _; unfold byt2; rw [if_neg (by rw [hc]; decide), if_neg (by rw [hc]; decide), if_neg (by rw [hc]; decide), if_neg (by rw [hc]; decide), if_pos hc, if_neg (fun h => hqc h.1)])
            have HNX := Lib.hid (show nxt U k = k + 1 by unfold nxt; rw [if_neg (by unfold pair; rw [hc]; simp)])
            have HPV : Hid (Pv U (k + 1)) := Lib.hid trivial
            have HOUT : Hid (m ++ byt U q k ++ rest U q (k + 1) = rest U q 0) := Lib.hid (by rw [← HNX.out, List.append_assoc, ← rest_step U q k hk]; exact HM.out)
            clear hx hc
            try clear hqc
            go_wp2_with (at_builtin; refine append_any _ rfl (.tmp 428) (.tmp 429) 25 5 rfl base Tryf.underlying25 (.int .u8 0) 1 rfl (by omega) infoB (.slice A n c) (bv (L)) rfl (HS.out.sl.own.alloc _) (wr.heap.size + 1) (some ⟨wr.heap.size, 0, none⟩) 1 1 [.int .u8 36] rfl rfl (rd_cells _ _ _) (one_u8 [36]) (by rw [bv_len]; first | omega | (rw [List.length_append]; simp only [List.length_cons, List.length_nil]; omega)) (le_alloc HBZ.out _) ?_; intro vw1 w1 o1 g1 at1; obtain ⟨A2, n2, c2, rfl, T2⟩ := HS.out.byte (K := [36]) g1 o1 at1; have S2 := Lib.hid T2; clear T2 o1 g1 at1)
            exact ⟨inv_of _ (k + 1) A2 n2 c2 (m ++ [36]) ⟨by omega, by have := S2.out; rw [HLL.out, List.append_assoc] at this; exact this, HBY.out ▸ HOUT.out, HPV.out⟩ (by kernel_rfl), by simp [intOf]; omega⟩
        · have hx' : wr.cell? (x.add k) = some (.int .u16 8232) := by rw [hx, hc]; rfl
          have HBY := Lib.hid (show byt U q k = [92, 117, 50, 48, 50, 56] from by unfold byt; rw [hc]; rfl)
          have HNX := Lib.hid (show nxt U k = k + 1 by unfold nxt; rw [if_neg (by unfold pair; rw [hc]; simp)])
          have HPV : Hid (Pv U (k + 1)) := Lib.hid trivial
          have HOUT : Hid (m ++ byt U q k ++ rest U q (k + 1) = rest U q 0) := Lib.hid (by rw [← HNX.out, List.append_assoc, ← rest_step U q k hk]; exact HM.out)
          clear hx hc
          go_wp2_with (at_builtin; refine wp_append_str _ rfl (.tmp 433) (.const (.string { data := #[92, 117, 50, 48, 50, 56] })) 25 9 5 rfl Tryf.underlying25 Tryf.underlying9 infoB (.slice A n c) L base rfl HS.out.sl.own { data := #[92, 117, 50, 48, 50, 56] } rfl (by show _ + 6 ≤ _; omega) HBZ.out ?_; intro v1 w1 o1 g1 loc1; obtain ⟨A2, n2, c2, rfl, T2⟩ := HS.out.str (K := [92, 117, 50, 48, 50, 56]) g1 o1 loc1; have S2 := Lib.hid T2; clear T2 o1 g1 loc1)
          exact ⟨inv_of _ (k + 1) A2 n2 c2 (m ++ [92, 117, 50, 48, 50, 56]) ⟨by omega, by have := S2.out; rw [HLL.out, List.append_assoc] at this; exact this, HBY.out ▸ HOUT.out, HPV.out⟩ (by kernel_rfl), by simp [intOf]; omega⟩
        · have hx' : wr.cell? (x.add k) = some (.int .u16 8233) := by rw [hx, hc]; rfl
          have HBY := Lib.hid (show byt U q k = [92, 117, 50, 48, 50, 57] from by unfold byt; rw [hc]; rfl)
          have HNX := Lib.hid (show nxt U k = k + 1 by unfold nxt; rw [if_neg (by unfold pair; rw [hc]; simp)])
          have HPV : Hid (Pv U (k + 1)) := Lib.hid trivial
          have HOUT : Hid (m ++ byt U q k ++ rest U q (k + 1) = rest U q 0) := Lib.hid (by rw [← HNX.out, List.append_assoc, ← rest_step U q k hk]; exact HM.out)
          clear hx hc
          go_wp2_with (at_builtin; refine wp_append_str _ rfl (.tmp 437) (.const (.string { data := #[92, 117, 50, 48, 50, 57] })) 25 9 5 rfl Tryf.underlying25 Tryf.underlying9 infoB (.slice A n c) L base rfl HS.out.sl.own { data := #[92, 117, 50, 48, 50, 57] } rfl (by show _ + 6 ≤ _; omega) HBZ.out ?_; intro v1 w1 o1 g1 loc1; obtain ⟨A2, n2, c2, rfl, T2⟩ := HS.out.str (K := [92, 117, 50, 48, 50, 57]) g1 o1 loc1; have S2 := Lib.hid T2; clear T2 o1 g1 loc1)
          exact ⟨inv_of _ (k + 1) A2 n2 c2 (m ++ [92, 117, 50, 48, 50, 57]) ⟨by omega, by have := S2.out; rw [HLL.out, List.append_assoc] at this; exact this, HBY.out ▸ HOUT.out, HPV.out⟩ (by kernel_rfl), by simp [intOf]; omega⟩
        · have hx' : wr.cell? (x.add k) = some (.int .u16 65279) := by rw [hx, hc]; rfl
          have HBY := Lib.hid (show byt U q k = [92, 117, 70, 69, 70, 70] from by unfold byt; rw [hc]; rfl)
          have HNX := Lib.hid (show nxt U k = k + 1 by unfold nxt; rw [if_neg (by unfold pair; rw [hc]; simp)])
          have HPV : Hid (Pv U (k + 1)) := Lib.hid trivial
          have HOUT : Hid (m ++ byt U q k ++ rest U q (k + 1) = rest U q 0) := Lib.hid (by rw [← HNX.out, List.append_assoc, ← rest_step U q k hk]; exact HM.out)
          clear hx hc
          go_wp2_with (at_builtin; refine wp_append_str _ rfl (.tmp 441) (.const (.string { data := #[92, 117, 70, 69, 70, 70] })) 25 9 5 rfl Tryf.underlying25 Tryf.underlying9 infoB (.slice A n c) L base rfl HS.out.sl.own { data := #[92, 117, 70, 69, 70, 70] } rfl (by show _ + 6 ≤ _; omega) HBZ.out ?_; intro v1 w1 o1 g1 loc1; obtain ⟨A2, n2, c2, rfl, T2⟩ := HS.out.str (K := [92, 117, 70, 69, 70, 70]) g1 o1 loc1; have S2 := Lib.hid T2; clear T2 o1 g1 loc1)
          exact ⟨inv_of _ (k + 1) A2 n2 c2 (m ++ [92, 117, 70, 69, 70, 70]) ⟨by omega, by have := S2.out; rw [HLL.out, List.append_assoc] at this; exact this, HBY.out ▸ HOUT.out, HPV.out⟩ (by kernel_rfl), by simp [intOf]; omega⟩
      · have HBY3 := Lib.hid (byt_else (U := U) (q := q) hcs)
        unfold codes at hcs
        simp only [List.mem_cons, List.not_mem_nil, or_false, not_or] at hcs
        obtain ⟨hcs0, hcs1, hcs2, hcs3, hcs4, hcs5, hcs6, hcs7, hcs8, hcs9, hcs10, hcs11, hcs12, hcs13, hcs14, hcs15, hcs16⟩ := hcs
        obtain ⟨c0, hc0⟩ : ∃ c0, c0 = U.getD k 0 := ⟨_, rfl⟩
        rw [← hc0] at hx hcs0 hcs1 hcs2 hcs3 hcs4 hcs5 hcs6 hcs7 hcs8 hcs9 hcs10 hcs11 hcs12 hcs13 hcs14 hcs15 hcs16
        have hw1 := (HW.out k hk)
        rw [← hc0] at hw1
        have HC0 := Lib.hid hc0
        clear hc0
        have e0 : ((c0 : Int) == 0) = false := by rw [beq_eq_false_iff_ne]; exact fun h => hcs0 (by omega)
        have e1 : ((c0 : Int) == 7) = false := by rw [beq_eq_false_iff_ne]; exact fun h => hcs1 (by omega)
        have e2 : ((c0 : Int) == 8) = false := by rw [beq_eq_false_iff_ne]; exact fun h => hcs2 (by omega)
        have e3 : ((c0 : Int) == 12) = false := by rw [beq_eq_false_iff_ne]; exact fun h => hcs3 (by omega)
        have e4 : ((c0 : Int) == 10) = false := by rw [beq_eq_false_iff_ne]; exact fun h => hcs4 (by omega)
        have e5 : ((c0 : Int) == 13) = false := by rw [beq_eq_false_iff_ne]; exact fun h => hcs5 (by omega)
        have e6 : ((c0 : Int) == 11) = false := by rw [beq_eq_false_iff_ne]; exact fun h => hcs6 (by omega)
        have e7 : ((c0 : Int) == 27) = false := by rw [beq_eq_false_iff_ne]; exact fun h => hcs7 (by omega)
        have e8 : ((c0 : Int) == 92) = false := by rw [beq_eq_false_iff_ne]; exact fun h => hcs8 (by omega)
        have e9 : ((c0 : Int) == 47) = false := by rw [beq_eq_false_iff_ne]; exact fun h => hcs9 (by omega)
        have e10 : ((c0 : Int) == 39) = false := by rw [beq_eq_false_iff_ne]; exact fun h => hcs10 (by omega)
        have e11 : ((c0 : Int) == 34) = false := by rw [beq_eq_false_iff_ne]; exact fun h => hcs11 (by omega)
        have e12 : ((c0 : Int) == 96) = false := by rw [beq_eq_false_iff_ne]; exact fun h => hcs12 (by omega)
        have e13 : ((c0 : Int) == 36) = false := by rw [beq_eq_false_iff_ne]; exact fun h => hcs13 (by omega)
        have e14 : ((c0 : Int) == 8232) = false := by rw [beq_eq_false_iff_ne]; exact fun h => hcs14 (by omega)
        have e15 : ((c0 : Int) == 8233) = false := by rw [beq_eq_false_iff_ne]; exact fun h => hcs15 (by omega)
        have e16 : ((c0 : Int) == 65279) = false := by rw [beq_eq_false_iff_ne]; exact fun h => hcs16 (by omega)
        clear hcs0 hcs1 hcs2 hcs3 hcs4 hcs5 hcs6 hcs7 hcs8 hcs9 hcs10 hcs11 hcs12 hcs13 hcs14 hcs15 hcs16
        by_cases ha : c0 ≤ 126
        · obtain ⟨b, hbq⟩ : ∃ b : UInt8, b.toNat = c0 := ⟨UInt8.ofNat c0, by rw [UInt8.toNat_ofNat_of_lt' (by show c0 < 256; omega)]⟩
          have HBY := Lib.hid (show byt U q k = [b] by rw [HBY3.out]; unfold byt3; rw [← HC0.out, if_pos ha, ← hbq, UInt8.ofNat_toNat])
          have HNX := Lib.hid (show nxt U k = k + 1 by unfold nxt; rw [if_neg (by unfold pair; rw [← HC0.out]; simp; omega)])
          have HPV : Hid (Pv U (k + 1)) := Lib.hid trivial
          have HOUT : Hid (m ++ byt U q k ++ rest U q (k + 1) = rest U q 0) := Lib.hid (by rw [← HNX.out, List.append_assoc, ← rest_step U q k hk]; exact HM.out)
          subst hbq
          have ha' : (b.toNat : Int) ≤ 126 := by omega
          clear ha hw1
          go_wp2_with (at_builtin; refine append_any _ rfl (.tmp 99) (.tmp 102) 25 5 rfl base Tryf.underlying25 (.int .u8 0) 1 rfl (by omega) infoB (.slice A n c) (bv (L)) rfl (HS.out.sl.own.alloc _) (wr.heap.size + 1) (some ⟨wr.heap.size, 0, none⟩) 1 1 [.int .u8 (b.toNat : Int)] rfl rfl (rd_cells _ _ _) (one_u8 [(b.toNat : Int)]) (by rw [bv_len]; first | omega | (rw [List.length_append]; simp only [List.length_cons, List.length_nil]; omega)) (le_alloc HBZ.out _) ?_; intro vw1 w1 o1 g1 at1; obtain ⟨A2, n2, c2, rfl, T2⟩ := HS.out.byte (K := [b]) g1 o1 at1; have S2 := Lib.hid T2; clear T2 o1 g1 at1)
          exact ⟨inv_of _ (k + 1) A2 n2 c2 (m ++ [b]) ⟨by omega, by have := S2.out; rw [HLL.out, List.append_assoc] at this; exact this, HBY.out ▸ HOUT.out, HPV.out⟩ (by kernel_rfl), by simp [intOf]; omega⟩
        · have ha' : ¬ (c0 : Int) ≤ 126 := by omega
          by_cases hp : pair U k = true
          · have hp' := hp
            unfold pair at hp'
            obtain ⟨p1, p2, p3, p4, p5⟩ := of_decide_eq_true hp'
            rw [← HC0.out] at p1 p2
            obtain ⟨x', hx'', hxb', hd⟩ := HU.out.at_ HS.out.sl.grown (k + 1) p3
            injection hx'' with hx''
            subst hx''
            rw [add_pos x (k + 1) (by omega)] at hd
            obtain ⟨dd, hdd⟩ : ∃ dd, dd = U.getD (k + 1) 0 := ⟨_, rfl⟩
            rw [← hdd] at hd p4 p5
            have HDD := Lib.hid hdd
            clear hdd hp'
            have HBY := Lib.hid (show byt U q k = rune8 ((c0 : Int) * 1024 + (dd : Int) + -56613888) by rw [HBY3.out]; unfold byt3; rw [← HC0.out, ← HDD.out, if_neg ha, if_pos hp]; rfl)
            have HNX := Lib.hid (show nxt U k = k + 2 by unfold nxt; rw [if_pos hp])
            have HPV : Hid (Pv U (k + 2)) := Lib.hid trivial
            have HOUT : Hid (m ++ byt U q k ++ rest U q (k + 2) = rest U q 0) := Lib.hid (by rw [← HNX.out, List.append_assoc, ← rest_step U q k hk]; exact HM.out)
            have t0 : (k : Int) + 1 < (U.length : Int) := by omega
            have t1 : (55296 : Int) ≤ (c0 : Int) := by omega
            have t2 : (c0 : Int) ≤ 56319 := by omega
            have t3 : (56320 : Int) ≤ (dd : Int) := by omega
            have t4 : (dd : Int) ≤ 57343 := by omega
            have ha31 := hP.cells.2.2.2.2.1
            clear hp ha
            obtain ⟨K, hK⟩ : ∃ K, K = rune8 ((c0 : Int) * 1024 + (dd : Int) + -56613888) := ⟨_, rfl⟩
            have EN := Lib.hid (enc_st HS.out ((c0 : Int) * 1024 + (dd : Int) + -56613888) (by omega) (by omega))
            have hkl := rune_len ((c0 : Int) * 1024 + (dd : Int) + -56613888)
            rw [← hK] at EN hkl HBY
            obtain ⟨kn, hkn⟩ : ∃ kn, kn = K.length := ⟨_, rfl⟩
            rw [← hkn] at EN hkl
            have HKN := Lib.hid hkn
            have hk4 : (kn : Int) ≤ 4 := by omega
            clear hK hkn
            go_upto_region 33 with (first | (go_at_call 20; refine EN.out.mono ?_; rintro e w2 ⟨rfl, s2, rd2, z2, far2⟩) | fail)
            have S2 := Lib.hid s2; have RD2 := Lib.hid rd2
            have HBZ2 := Lib.hid (show base ≤ w2.heap.size by have := HBZ.out; omega)
            clear s2 rd2 far2 EN
            go_wp2_with (at_builtin; refine append_any _ rfl (.tmp 185) (.tmp 188) 25 5 rfl base Tryf.underlying25 (.int .u8 0) 1 rfl (by omega) infoB (.slice A n c) (bv L) rfl S2.out.sl.own w2.heap.size (some ⟨w.heap.size, 0, none⟩) kn 4 (bv K) (by rw [bv_len, HKN.out]) rfl RD2.out (bv_one K) (by rw [bv_len]; omega) HBZ2.out ?_; intro v1 w3 o1 g1 at1; obtain ⟨A3, n3, c3, rfl, T3⟩ := S2.out.part (K := K) g1 o1 at1; have S3 := Lib.hid T3; clear T3 o1 g1 at1)
            exact ⟨inv_of _ (k + 2) A3 n3 c3 (m ++ K) ⟨by omega, by have := S3.out; rw [HLL.out, List.append_assoc] at this; exact this, HBY.out ▸ HOUT.out, HPV.out⟩ (by kernel_rfl), by simp [intOf]; omega⟩
          · by_cases hns : 55296 ≤ c0 ∧ c0 ≤ 57343
            · obtain ⟨d1, d2, d3, d4, l1, l2, l3, l4, e0, a1, a2, a3, a4⟩ := digits c0 hw1
              have HBY := Lib.hid (show byt U q k = [92, 117, Esq.hx d1, Esq.hx d2, Esq.hx d3, Esq.hx d4] by rw [HBY3.out]; unfold byt3; rw [← HC0.out, if_neg ha, if_neg hp, if_pos hns]; exact e0)
              have HNX := Lib.hid (show nxt U k = k + 1 by unfold nxt; rw [if_neg hp])
              have HPV : Hid (Pv U (k + 1)) := Lib.hid trivial
              have HOUT : Hid (m ++ byt U q k ++ rest U q (k + 1) = rest U q 0) := Lib.hid (by rw [← HNX.out, List.append_assoc, ← rest_step U q k hk]; exact HM.out)
              have HNEWS : Hid ([.int .u8 92, .int .u8 117, .int .u8 ((({ data := #[48, 49, 50, 51, 52, 53, 54, 55, 56, 57, 65, 66, 67, 68, 69, 70] } : ByteArray)[d1]'l1).toNat : Int), .int .u8 ((({ data := #[48, 49, 50, 51, 52, 53, 54, 55, 56, 57, 65, 66, 67, 68, 69, 70] } : ByteArray)[d2]'l2).toNat : Int), .int .u8 ((({ data := #[48, 49, 50, 51, 52, 53, 54, 55, 56, 57, 65, 66, 67, 68, 69, 70] } : ByteArray)[d3]'l3).toNat : Int), .int .u8 ((({ data := #[48, 49, 50, 51, 52, 53, 54, 55, 56, 57, 65, 66, 67, 68, 69, 70] } : ByteArray)[d4]'l4).toNat : Int)] = bv [92, 117, Esq.hx d1, Esq.hx d2, Esq.hx d3, Esq.hx d4]) := Lib.hid (by rw [hex_at d1 l1, hex_at d2 l2, hex_at d3 l3, hex_at d4 l4]; rfl)
              have LEN6 : Hid ((bv L).length + 6 ≤ maxLen) := Lib.hid (by rw [bv_len]; unfold maxLen; omega)
              have LENB : Hid (((bv L).length + 6) * 1 ≤ 140737488355328) := Lib.hid (by rw [bv_len]; omega)
              obtain ⟨i0, hi, hz0, hz1, hz2⟩ := info_parts infoB
              have HI := Lib.hid hi; have Z0 := Lib.hid hz0; have Z1 := Lib.hid hz1; have Z2 := Lib.hid hz2
              have j1 : (d1 : Int) < 16 := by omega
              have j2 : (d2 : Int) < 16 := by omega
              have j3 : (d3 : Int) < 16 := by omega
              have j4 : (d4 : Int) < 16 := by omega
              have ha31 := hP.cells.2.2.2.2.1
              have PN := Lib.hid hp
              have HNS := Lib.hid hns
              clear hi hz0 hz1 hz2 e0 hp ha hns
              by_cases hhi : c0 ≤ 56319
              · have t1 : (55296 : Int) ≤ (c0 : Int) := by have := HNS.out; omega
                have t2 : (c0 : Int) ≤ 56319 := by omega
                by_cases hk1 : k + 1 < U.length
                · obtain ⟨x', hx'', hxb', hd⟩ := HU.out.at_ HS.out.sl.grown (k + 1) hk1
                  injection hx'' with hx''
                  subst hx''
                  rw [add_pos x (k + 1) (by omega)] at hd
                  have hdn : ¬ (56320 ≤ U.getD (k + 1) 0 ∧ U.getD (k + 1) 0 ≤ 57343) := fun h => PN.out (by unfold pair; exact decide_eq_true ⟨by rw [← HC0.out]; exact HNS.out.1, by rw [← HC0.out]; exact hhi, hk1, h.1, h.2⟩)
                  obtain ⟨dd, hdd⟩ : ∃ dd, dd = U.getD (k + 1) 0 := ⟨_, rfl⟩
                  rw [← hdd] at hd hdn
                  have t0 : (k : Int) + 1 < (U.length : Int) := by omega
                  have tt : dd < 56320 ∨ (56320 ≤ dd ∧ 57343 < dd) := by omega
                  clear hdn hdd
                  rcases tt with tt | ⟨tt, tt2⟩
                  · have t3 : ¬ (56320 : Int) ≤ (dd : Int) := by omega
                    clear tt
                    go_upto_region 34 with (fail)
                    refine wp_region_held_drew (S := fun _ => True) (by kernel_rfl) trivial (fun hHeld => ?_)
                    refine wpAnyH_take (i := 0) (v := ?_) rfl (by kernel_rfl) (by kernel_rfl) (by kernel_rfl) (fun _ _ _ h => h) (Or.inl ⟨by rfl, ?_⟩) (by assumption) ?_
                    rotate_left
                    · intro wq hSw
                      go_simp
                      try (with_reducible rfl)
                    try go_frame
                    refine wpAnyH_take (i := 1) (v := ?_) rfl (by kernel_rfl) (by kernel_rfl) (by kernel_rfl) (fun _ _ _ h => h) (Or.inl ⟨by rfl, ?_⟩) (by assumption) ?_
                    rotate_left
                    · intro wq hSw
                      go_simp
                      try (with_reducible rfl)
                    try go_frame
                    refine wpAnyH_take (i := 2) (v := ?_) rfl (by kernel_rfl) (by kernel_rfl) (by kernel_rfl) (fun _ _ _ h => h) (Or.inl ⟨by rfl, ?_⟩) (by assumption) ?_
                    rotate_left
                    · intro wq hSw
                      go_simp
                      try (with_reducible rfl)
                    try go_frame
                    refine wpAnyH_take (i := 3) (v := ?_) rfl (by kernel_rfl) (by kernel_rfl) (by kernel_rfl) (fun _ _ _ h => h) (Or.inl ⟨by rfl, ?_⟩) (by assumption) ?_
                    rotate_left
                    · intro wq hSw
                      go_simp
                      try (with_reducible rfl)
                    try go_frame
                    refine wpAnyH_take (i := 4) (v := ?_) rfl (by kernel_rfl) (by kernel_rfl) (by kernel_rfl) (fun _ _ _ h => h) (Or.inl ⟨by rfl, ?_⟩) (by assumption) ?_
                    rotate_left
                    · intro wq hSw
                      go_simp
                      try (with_reducible rfl)
                    try go_frame
                    refine wpAnyH_take (i := 5) (v := ?_) rfl (by kernel_rfl) (by kernel_rfl) (by kernel_rfl) (fun _ _ _ h => h) (Or.inl ⟨by rfl, ?_⟩) (by assumption) ?_
                    rotate_left
                    · intro wq hSw
                      go_simp
                      try (with_reducible rfl)
                    try go_frame
                    refine wpAnyH_take (i := 6) (v := ?_) rfl (by kernel_rfl) (by kernel_rfl) (by kernel_rfl) (fun _ _ _ h => h) (Or.inl ⟨by rfl, ?_⟩) (by assumption) ?_
                    rotate_left
                    · intro wq hSw
                      go_simp
                      try (with_reducible rfl)
                    try go_frame
                    refine wpAnyH_take (i := 7) (v := ?_) rfl (by kernel_rfl) (by kernel_rfl) (by kernel_rfl) (fun _ _ _ h => h) (Or.inl ⟨by rfl, ?_⟩) (by assumption) ?_
                    rotate_left
                    · intro wq hSw
                      go_simp
                      try (with_reducible rfl)
                    try go_frame
                    refine wpAnyH_take (i := 8) (v := ?_) rfl (by kernel_rfl) (by kernel_rfl) (by kernel_rfl) (fun _ _ _ h => h) (Or.inl ⟨by rfl, ?_⟩) (by assumption) ?_
                    rotate_left
                    · intro wq hSw
                      go_simp
                      try (with_reducible rfl)
                    try go_frame
                    refine wpAnyH_take (i := 9) (v := ?_) rfl (by kernel_rfl) (by kernel_rfl) (by kernel_rfl) (fun _ _ _ h => h) (Or.inl ⟨by rfl, ?_⟩) (by assumption) ?_
                    rotate_left
                    · intro wq hSw
                      go_simp
                      try (with_reducible rfl)
                    try go_frame
                    refine wpAnyH_take (i := 10) (v := ?_) rfl (by kernel_rfl) (by kernel_rfl) (by kernel_rfl) (fun _ _ _ h => h) (Or.inl ⟨by rfl, ?_⟩) (by assumption) ?_
                    rotate_left
                    · intro wq hSw
                      go_simp
                      try (with_reducible rfl)
                    try go_frame
                    refine wpAnyH_take (i := 11) (v := ?_) rfl (by kernel_rfl) (by kernel_rfl) (by kernel_rfl) (fun _ _ _ h => h) (Or.inl ⟨by rfl, ?_⟩) (by assumption) ?_
                    rotate_left
                    · intro wq hSw
                      go_simp
                      try (with_reducible rfl)
                    try go_frame
                    refine wpAnyH_take (i := 12) (v := ?_) rfl (by kernel_rfl) (by kernel_rfl) (by kernel_rfl) (fun _ _ _ h => h) (Or.inl ⟨by rfl, ?_⟩) (by assumption) ?_
                    rotate_left
                    · intro wq hSw
                      go_simp
                      try (with_reducible rfl)
                    try go_frame
                    refine wpAnyH_take (i := 13) (v := ?_) rfl (by kernel_rfl) (by kernel_rfl) (by kernel_rfl) (fun _ _ _ h => h) (Or.inl ⟨by rfl, ?_⟩) (by assumption) ?_
                    rotate_left
                    · intro wq hSw
                      go_simp
                      try (with_reducible rfl)
                    try go_frame
                    refine wpAnyH_take (i := 14) (v := ?_) rfl (by kernel_rfl) (by kernel_rfl) (by kernel_rfl) (fun _ _ _ h => h) (Or.inl ⟨by rfl, ?_⟩) (by assumption) ?_
                    rotate_left
                    · intro wq hSw
                      go_simp
                      try (with_reducible rfl)
                    try go_frame
                    refine wpAnyH_ready (rs := [15]) (by kernel_rfl) (by simp) ?_
                    refine AllReadyH.cons rfl (fun K hK => ?_) AllReadyH.nil
                    go_simp
                    refine hK.out _ _ trivial (fun hHeld => ?_)
                    clear hK K
                    try go_frame
                    refine wpAnyH_ready (rs := [16]) (by kernel_rfl) (by simp) ?_
                    refine AllReadyH.cons rfl (fun K hK => ?_) AllReadyH.nil
                    refine step_app _ (by rfl) _ _ _ (by rfl) base 5 i0 (.int .u8 0) 1 Tryf.underlying25 HI.out Z0.out Z1.out Z2.out rfl (.slice A n c) (bv L) (by rfl) (Own.drew (Own.alloc HS.out.sl.own _)) ⟨wr.heap.size, 0, none⟩ 6 6 [.int .u8 92, .int .u8 117, .int .u8 ((({ data := #[48, 49, 50, 51, 52, 53, 54, 55, 56, 57, 65, 66, 67, 68, 69, 70] } : ByteArray)[d1]'l1).toNat : Int), .int .u8 ((({ data := #[48, 49, 50, 51, 52, 53, 54, 55, 56, 57, 65, 66, 67, 68, 69, 70] } : ByteArray)[d2]'l2).toNat : Int), .int .u8 ((({ data := #[48, 49, 50, 51, 52, 53, 54, 55, 56, 57, 65, 66, 67, 68, 69, 70] } : ByteArray)[d3]'l3).toNat : Int), .int .u8 ((({ data := #[48, 49, 50, 51, 52, 53, 54, 55, 56, 57, 65, 66, 67, 68, 69, 70] } : ByteArray)[d4]'l4).toNat : Int)] (by rfl) (by rfl) (World.news_of_block (cs := #[.int .u8 92, .int .u8 117, .int .u8 ((({ data := #[48, 49, 50, 51, 52, 53, 54, 55, 56, 57, 65, 66, 67, 68, 69, 70] } : ByteArray)[d1]'l1).toNat : Int), .int .u8 ((({ data := #[48, 49, 50, 51, 52, 53, 54, 55, 56, 57, 65, 66, 67, 68, 69, 70] } : ByteArray)[d2]'l2).toNat : Int), .int .u8 ((({ data := #[48, 49, 50, 51, 52, 53, 54, 55, 56, 57, 65, 66, 67, 68, 69, 70] } : ByteArray)[d3]'l3).toNat : Int), .int .u8 ((({ data := #[48, 49, 50, 51, 52, 53, 54, 55, 56, 57, 65, 66, 67, 68, 69, 70] } : ByteArray)[d4]'l4).toNat : Int)]) (t := 5) (fr := (0, 0)) (heap_alloc_new wr _)) (one_u8 [92, 117, ((({ data := #[48, 49, 50, 51, 52, 53, 54, 55, 56, 57, 65, 66, 67, 68, 69, 70] } : ByteArray)[d1]'l1).toNat : Int), ((({ data := #[48, 49, 50, 51, 52, 53, 54, 55, 56, 57, 65, 66, 67, 68, 69, 70] } : ByteArray)[d2]'l2).toNat : Int), ((({ data := #[48, 49, 50, 51, 52, 53, 54, 55, 56, 57, 65, 66, 67, 68, 69, 70] } : ByteArray)[d3]'l3).toNat : Int), ((({ data := #[48, 49, 50, 51, 52, 53, 54, 55, 56, 57, 65, 66, 67, 68, 69, 70] } : ByteArray)[d4]'l4).toNat : Int)]) LEN6.out LENB.out (le_alloc HBZ.out _) ?_
                    intro v9 w9 o9 g9 at9
                    obtain ⟨A9, n9, c9, rfl, T9⟩ := St.lies HS.out g9 o9 at9 HNEWS.out
                    have S9 := Lib.hid T9
                    clear o9 g9 at9 T9
                    refine hK.out _ _ trivial (fun hHeld => ?_)
                    clear hK K
                    try go_frame
                    refine wpAnyH_take (i := 17) (v := ?_) rfl (by kernel_rfl) (by kernel_rfl) (by kernel_rfl) (fun _ _ _ h => h) (Or.inl ⟨by rfl, ?_⟩) (by assumption) ?_
                    rotate_left
                    · intro wq hSw
                      go_simp
                      try (with_reducible rfl)
                    try go_frame
                    refine wpAnyH_done (by kernel_rfl) ?_ _
                    go_wp2_with (fail)
                    exact ⟨inv_of _ (k + 1) A9 n9 c9 (m ++ [92, 117, Esq.hx d1, Esq.hx d2, Esq.hx d3, Esq.hx d4]) ⟨by omega, by have := S9.out; rw [HLL.out, List.append_assoc] at this; exact this, HBY.out ▸ HOUT.out, HPV.out⟩ (by kernel_rfl), by simp [intOf]; omega⟩
                  · have t3 : (56320 : Int) ≤ (dd : Int) := by omega
                    have t4 : ¬ (dd : Int) ≤ 57343 := by omega
                    clear tt tt2
                    go_upto_region 34 with (fail)
                    refine wp_region_held_drew (S := fun _ => True) (by kernel_rfl) trivial (fun hHeld => ?_)
                    refine wpAnyH_take (i := 0) (v := ?_) rfl (by kernel_rfl) (by kernel_rfl) (by kernel_rfl) (fun _ _ _ h => h) (Or.inl ⟨by rfl, ?_⟩) (by assumption) ?_
                    rotate_left
                    · intro wq hSw
                      go_simp
                      try (with_reducible rfl)
                    try go_frame
                    refine wpAnyH_take (i := 1) (v := ?_) rfl (by kernel_rfl) (by kernel_rfl) (by kernel_rfl) (fun _ _ _ h => h) (Or.inl ⟨by rfl, ?_⟩) (by assumption) ?_
                    rotate_left
                    · intro wq hSw
                      go_simp
                      try (with_reducible rfl)
                    try go_frame
                    refine wpAnyH_take (i := 2) (v := ?_) rfl (by kernel_rfl) (by kernel_rfl) (by kernel_rfl) (fun _ _ _ h => h) (Or.inl ⟨by rfl, ?_⟩) (by assumption) ?_
                    rotate_left
                    · intro wq hSw
                      go_simp
                      try (with_reducible rfl)
                    try go_frame
                    refine wpAnyH_take (i := 3) (v := ?_) rfl (by kernel_rfl) (by kernel_rfl) (by kernel_rfl) (fun _ _ _ h => h) (Or.inl ⟨by rfl, ?_⟩) (by assumption) ?_
                    rotate_left
                    · intro wq hSw
                      go_simp
                      try (with_reducible rfl)
                    try go_frame
                    refine wpAnyH_take (i := 4) (v := ?_) rfl (by kernel_rfl) (by kernel_rfl) (by kernel_rfl) (fun _ _ _ h => h) (Or.inl ⟨by rfl, ?_⟩) (by assumption) ?_
                    rotate_left
                    · intro wq hSw
                      go_simp
                      try (with_reducible rfl)
                    try go_frame
                    refine wpAnyH_take (i := 5) (v := ?_) rfl (by kernel_rfl) (by kernel_rfl) (by kernel_rfl) (fun _ _ _ h => h) (Or.inl ⟨by rfl, ?_⟩) (by assumption) ?_
                    rotate_left
                    · intro wq hSw
                      go_simp
                      try (with_reducible rfl)
                    try go_frame
                    refine wpAnyH_take (i := 6) (v := ?_) rfl (by kernel_rfl) (by kernel_rfl) (by kernel_rfl) (fun _ _ _ h => h) (Or.inl ⟨by rfl, ?_⟩) (by assumption) ?_
                    rotate_left
                    · intro wq hSw
                      go_simp
                      try (with_reducible rfl)
                    try go_frame
                    refine wpAnyH_take (i := 7) (v := ?_) rfl (by kernel_rfl) (by kernel_rfl) (by kernel_rfl) (fun _ _ _ h => h) (Or.inl ⟨by rfl, ?_⟩) (by assumption) ?_
                    rotate_left
                    · intro wq hSw
                      go_simp
                      try (with_reducible rfl)
                    try go_frame
                    refine wpAnyH_take (i := 8) (v := ?_) rfl (by kernel_rfl) (by kernel_rfl) (by kernel_rfl) (fun _ _ _ h => h) (Or.inl ⟨by rfl, ?_⟩) (by assumption) ?_
                    rotate_left
                    · intro wq hSw
                      go_simp
                      try (with_reducible rfl)
                    try go_frame
                    refine wpAnyH_take (i := 9) (v := ?_) rfl (by kernel_rfl) (by kernel_rfl) (by kernel_rfl) (fun _ _ _ h => h) (Or.inl ⟨by rfl, ?_⟩) (by assumption) ?_
                    rotate_left
                    · intro wq hSw
                      go_simp
                      try (with_reducible rfl)
                    try go_frame
                    refine wpAnyH_take (i := 10) (v := ?_) rfl (by kernel_rfl) (by kernel_rfl) (by kernel_rfl) (fun _ _ _ h => h) (Or.inl ⟨by rfl, ?_⟩) (by assumption) ?_
                    rotate_left
                    · intro wq hSw
                      go_simp
                      try (with_reducible rfl)
                    try go_frame
                    refine wpAnyH_take (i := 11) (v := ?_) rfl (by kernel_rfl) (by kernel_rfl) (by kernel_rfl) (fun _ _ _ h => h) (Or.inl ⟨by rfl, ?_⟩) (by assumption) ?_
                    rotate_left
                    · intro wq hSw
                      go_simp
                      try (with_reducible rfl)
                    try go_frame
                    refine wpAnyH_take (i := 12) (v := ?_) rfl (by kernel_rfl) (by kernel_rfl) (by kernel_rfl) (fun _ _ _ h => h) (Or.inl ⟨by rfl, ?_⟩) (by assumption) ?_
                    rotate_left
                    · intro wq hSw
                      go_simp
                      try (with_reducible rfl)
                    try go_frame
                    refine wpAnyH_take (i := 13) (v := ?_) rfl (by kernel_rfl) (by kernel_rfl) (by kernel_rfl) (fun _ _ _ h => h) (Or.inl ⟨by rfl, ?_⟩) (by assumption) ?_
                    rotate_left
                    · intro wq hSw
                      go_simp
                      try (with_reducible rfl)
                    try go_frame
                    refine wpAnyH_take (i := 14) (v := ?_) rfl (by kernel_rfl) (by kernel_rfl) (by kernel_rfl) (fun _ _ _ h => h) (Or.inl ⟨by rfl, ?_⟩) (by assumption) ?_
                    rotate_left
                    · intro wq hSw
                      go_simp
                      try (with_reducible rfl)
                    try go_frame
                    refine wpAnyH_ready (rs := [15]) (by kernel_rfl) (by simp) ?_
                    refine AllReadyH.cons rfl (fun K hK => ?_) AllReadyH.nil
                    go_simp
                    refine hK.out _ _ trivial (fun hHeld => ?_)
                    clear hK K
                    try go_frame
                    refine wpAnyH_ready (rs := [16]) (by kernel_rfl) (by simp) ?_
                    refine AllReadyH.cons rfl (fun K hK => ?_) AllReadyH.nil
                    refine step_app _ (by rfl) _ _ _ (by rfl) base 5 i0 (.int .u8 0) 1 Tryf.underlying25 HI.out Z0.out Z1.out Z2.out rfl (.slice A n c) (bv L) (by rfl) (Own.drew (Own.alloc HS.out.sl.own _)) ⟨wr.heap.size, 0, none⟩ 6 6 [.int .u8 92, .int .u8 117, .int .u8 ((({ data := #[48, 49, 50, 51, 52, 53, 54, 55, 56, 57, 65, 66, 67, 68, 69, 70] } : ByteArray)[d1]'l1).toNat : Int), .int .u8 ((({ data := #[48, 49, 50, 51, 52, 53, 54, 55, 56, 57, 65, 66, 67, 68, 69, 70] } : ByteArray)[d2]'l2).toNat : Int), .int .u8 ((({ data := #[48, 49, 50, 51, 52, 53, 54, 55, 56, 57, 65, 66, 67, 68, 69, 70] } : ByteArray)[d3]'l3).toNat : Int), .int .u8 ((({ data := #[48, 49, 50, 51, 52, 53, 54, 55, 56, 57, 65, 66, 67, 68, 69, 70] } : ByteArray)[d4]'l4).toNat : Int)] (by rfl) (by rfl) (World.news_of_block (cs := #[.int .u8 92, .int .u8 117, .int .u8 ((({ data := #[48, 49, 50, 51, 52, 53, 54, 55, 56, 57, 65, 66, 67, 68, 69, 70] } : ByteArray)[d1]'l1).toNat : Int), .int .u8 ((({ data := #[48, 49, 50, 51, 52, 53, 54, 55, 56, 57, 65, 66, 67, 68, 69, 70] } : ByteArray)[d2]'l2).toNat : Int), .int .u8 ((({ data := #[48, 49, 50, 51, 52, 53, 54, 55, 56, 57, 65, 66, 67, 68, 69, 70] } : ByteArray)[d3]'l3).toNat : Int), .int .u8 ((({ data := #[48, 49, 50, 51, 52, 53, 54, 55, 56, 57, 65, 66, 67, 68, 69, 70] } : ByteArray)[d4]'l4).toNat : Int)]) (t := 5) (fr := (0, 0)) (heap_alloc_new wr _)) (one_u8 [92, 117, ((({ data := #[48, 49, 50, 51, 52, 53, 54, 55, 56, 57, 65, 66, 67, 68, 69, 70] } : ByteArray)[d1]'l1).toNat : Int), ((({ data := #[48, 49, 50, 51, 52, 53, 54, 55, 56, 57, 65, 66, 67, 68, 69, 70] } : ByteArray)[d2]'l2).toNat : Int), ((({ data := #[48, 49, 50, 51, 52, 53, 54, 55, 56, 57, 65, 66, 67, 68, 69, 70] } : ByteArray)[d3]'l3).toNat : Int), ((({ data := #[48, 49, 50, 51, 52, 53, 54, 55, 56, 57, 65, 66, 67, 68, 69, 70] } : ByteArray)[d4]'l4).toNat : Int)]) LEN6.out LENB.out (le_alloc HBZ.out _) ?_
                    intro v9 w9 o9 g9 at9
                    obtain ⟨A9, n9, c9, rfl, T9⟩ := St.lies HS.out g9 o9 at9 HNEWS.out
                    have S9 := Lib.hid T9
                    clear o9 g9 at9 T9
                    refine hK.out _ _ trivial (fun hHeld => ?_)
                    clear hK K
                    try go_frame
                    refine wpAnyH_take (i := 17) (v := ?_) rfl (by kernel_rfl) (by kernel_rfl) (by kernel_rfl) (fun _ _ _ h => h) (Or.inl ⟨by rfl, ?_⟩) (by assumption) ?_
                    rotate_left
                    · intro wq hSw
                      go_simp
                      try (with_reducible rfl)
                    try go_frame
                    refine wpAnyH_done (by kernel_rfl) ?_ _
                    go_wp2_with (fail)
                    exact ⟨inv_of _ (k + 1) A9 n9 c9 (m ++ [92, 117, Esq.hx d1, Esq.hx d2, Esq.hx d3, Esq.hx d4]) ⟨by omega, by have := S9.out; rw [HLL.out, List.append_assoc] at this; exact this, HBY.out ▸ HOUT.out, HPV.out⟩ (by kernel_rfl), by simp [intOf]; omega⟩
                · have t0 : ¬ (k : Int) + 1 < (U.length : Int) := by omega
                  go_upto_region 34 with (fail)
                  refine wp_region_held_drew (S := fun _ => True) (by kernel_rfl) trivial (fun hHeld => ?_)
                  refine wpAnyH_take (i := 0) (v := ?_) rfl (by kernel_rfl) (by kernel_rfl) (by kernel_rfl) (fun _ _ _ h => h) (Or.inl ⟨by rfl, ?_⟩) (by assumption) ?_
                  rotate_left
                  · intro wq hSw
                    go_simp
                    try (with_reducible rfl)
                  try go_frame
                  refine wpAnyH_take (i := 1) (v := ?_) rfl (by kernel_rfl) (by kernel_rfl) (by kernel_rfl) (fun _ _ _ h => h) (Or.inl ⟨by rfl, ?_⟩) (by assumption) ?_
                  rotate_left
                  · intro wq hSw
                    go_simp
                    try (with_reducible rfl)
                  try go_frame
                  refine wpAnyH_take (i := 2) (v := ?_) rfl (by kernel_rfl) (by kernel_rfl) (by kernel_rfl) (fun _ _ _ h => h) (Or.inl ⟨by rfl, ?_⟩) (by assumption) ?_
                  rotate_left
                  · intro wq hSw
                    go_simp
                    try (with_reducible rfl)
                  try go_frame
                  refine wpAnyH_take (i := 3) (v := ?_) rfl (by kernel_rfl) (by kernel_rfl) (by kernel_rfl) (fun _ _ _ h => h) (Or.inl ⟨by rfl, ?_⟩) (by assumption) ?_
                  rotate_left
                  · intro wq hSw
                    go_simp
                    try (with_reducible rfl)
                  try go_frame
                  refine wpAnyH_take (i := 4) (v := ?_) rfl (by kernel_rfl) (by kernel_rfl) (by kernel_rfl) (fun _ _ _ h => h) (Or.inl ⟨by rfl, ?_⟩) (by assumption) ?_
                  rotate_left
                  · intro wq hSw
                    go_simp
                    try (with_reducible rfl)
                  try go_frame
                  refine wpAnyH_take (i := 5) (v := ?_) rfl (by kernel_rfl) (by kernel_rfl) (by kernel_rfl) (fun _ _ _ h => h) (Or.inl ⟨by rfl, ?_⟩) (by assumption) ?_
                  rotate_left
                  · intro wq hSw
                    go_simp
                    try (with_reducible rfl)
                  try go_frame
                  refine wpAnyH_take (i := 6) (v := ?_) rfl (by kernel_rfl) (by kernel_rfl) (by kernel_rfl) (fun _ _ _ h => h) (Or.inl ⟨by rfl, ?_⟩) (by assumption) ?_
                  rotate_left
                  · intro wq hSw
                    go_simp
                    try (with_reducible rfl)
                  try go_frame
                  refine wpAnyH_take (i := 7) (v := ?_) rfl (by kernel_rfl) (by kernel_rfl) (by kernel_rfl) (fun _ _ _ h => h) (Or.inl ⟨by rfl, ?_⟩) (by assumption) ?_
                  rotate_left
                  · intro wq hSw
                    go_simp
                    try (with_reducible rfl)
                  try go_frame
                  refine wpAnyH_take (i := 8) (v := ?_) rfl (by kernel_rfl) (by kernel_rfl) (by kernel_rfl) (fun _ _ _ h => h) (Or.inl ⟨by rfl, ?_⟩) (by assumption) ?_
                  rotate_left
                  · intro wq hSw
                    go_simp
                    try (with_reducible rfl)
                  try go_frame
                  refine wpAnyH_take (i := 9) (v := ?_) rfl (by kernel_rfl) (by kernel_rfl) (by kernel_rfl) (fun _ _ _ h => h) (Or.inl ⟨by rfl, ?_⟩) (by assumption) ?_
                  rotate_left
                  · intro wq hSw
                    go_simp
                    try (with_reducible rfl)
                  try go_frame
                  refine wpAnyH_take (i := 10) (v := ?_) rfl (by kernel_rfl) (by kernel_rfl) (by kernel_rfl) (fun _ _ _ h => h) (Or.inl ⟨by rfl, ?_⟩) (by assumption) ?_
                  rotate_left
                  · intro wq hSw
                    go_simp
                    try (with_reducible rfl)
                  try go_frame
                  refine wpAnyH_take (i := 11) (v := ?_) rfl (by kernel_rfl) (by kernel_rfl) (by kernel_rfl) (fun _ _ _ h => h) (Or.inl ⟨by rfl, ?_⟩) (by assumption) ?_
                  rotate_left
                  · intro wq hSw
                    go_simp
                    try (with_reducible rfl)
                  try go_frame
                  refine wpAnyH_take (i := 12) (v := ?_) rfl (by kernel_rfl) (by kernel_rfl) (by kernel_rfl) (fun _ _ _ h => h) (Or.inl ⟨by rfl, ?_⟩) (by assumption) ?_
                  rotate_left
                  · intro wq hSw
                    go_simp
                    try (with_reducible rfl)
                  try go_frame
                  refine wpAnyH_take (i := 13) (v := ?_) rfl (by kernel_rfl) (by kernel_rfl) (by kernel_rfl) (fun _ _ _ h => h) (Or.inl ⟨by rfl, ?_⟩) (by assumption) ?_
                  rotate_left
                  · intro wq hSw
                    go_simp
                    try (with_reducible rfl)
                  try go_frame
                  refine wpAnyH_take (i := 14) (v := ?_) rfl (by kernel_rfl) (by kernel_rfl) (by kernel_rfl) (fun _ _ _ h => h) (Or.inl ⟨by rfl, ?_⟩) (by assumption) ?_
                  rotate_left
                  · intro wq hSw
                    go_simp
                    try (with_reducible rfl)
                  try go_frame
                  refine wpAnyH_ready (rs := [15]) (by kernel_rfl) (by simp) ?_
                  refine AllReadyH.cons rfl (fun K hK => ?_) AllReadyH.nil
                  go_simp
                  refine hK.out _ _ trivial (fun hHeld => ?_)
                  clear hK K
                  try go_frame
                  refine wpAnyH_ready (rs := [16]) (by kernel_rfl) (by simp) ?_
                  refine AllReadyH.cons rfl (fun K hK => ?_) AllReadyH.nil
                  refine step_app _ (by rfl) _ _ _ (by rfl) base 5 i0 (.int .u8 0) 1 Tryf.underlying25 HI.out Z0.out Z1.out Z2.out rfl (.slice A n c) (bv L) (by rfl) (Own.drew (Own.alloc HS.out.sl.own _)) ⟨wr.heap.size, 0, none⟩ 6 6 [.int .u8 92, .int .u8 117, .int .u8 ((({ data := #[48, 49, 50, 51, 52, 53, 54, 55, 56, 57, 65, 66, 67, 68, 69, 70] } : ByteArray)[d1]'l1).toNat : Int), .int .u8 ((({ data := #[48, 49, 50, 51, 52, 53, 54, 55, 56, 57, 65, 66, 67, 68, 69, 70] } : ByteArray)[d2]'l2).toNat : Int), .int .u8 ((({ data := #[48, 49, 50, 51, 52, 53, 54, 55, 56, 57, 65, 66, 67, 68, 69, 70] } : ByteArray)[d3]'l3).toNat : Int), .int .u8 ((({ data := #[48, 49, 50, 51, 52, 53, 54, 55, 56, 57, 65, 66, 67, 68, 69, 70] } : ByteArray)[d4]'l4).toNat : Int)] (by rfl) (by rfl) (World.news_of_block (cs := #[.int .u8 92, .int .u8 117, .int .u8 ((({ data := #[48, 49, 50, 51, 52, 53, 54, 55, 56, 57, 65, 66, 67, 68, 69, 70] } : ByteArray)[d1]'l1).toNat : Int), .int .u8 ((({ data := #[48, 49, 50, 51, 52, 53, 54, 55, 56, 57, 65, 66, 67, 68, 69, 70] } : ByteArray)[d2]'l2).toNat : Int), .int .u8 ((({ data := #[48, 49, 50, 51, 52, 53, 54, 55, 56, 57, 65, 66, 67, 68, 69, 70] } : ByteArray)[d3]'l3).toNat : Int), .int .u8 ((({ data := #[48, 49, 50, 51, 52, 53, 54, 55, 56, 57, 65, 66, 67, 68, 69, 70] } : ByteArray)[d4]'l4).toNat : Int)]) (t := 5) (fr := (0, 0)) (heap_alloc_new wr _)) (one_u8 [92, 117, ((({ data := #[48, 49, 50, 51, 52, 53, 54, 55, 56, 57, 65, 66, 67, 68, 69, 70] } : ByteArray)[d1]'l1).toNat : Int), ((({ data := #[48, 49, 50, 51, 52, 53, 54, 55, 56, 57, 65, 66, 67, 68, 69, 70] } : ByteArray)[d2]'l2).toNat : Int), ((({ data := #[48, 49, 50, 51, 52, 53, 54, 55, 56, 57, 65, 66, 67, 68, 69, 70] } : ByteArray)[d3]'l3).toNat : Int), ((({ data := #[48, 49, 50, 51, 52, 53, 54, 55, 56, 57, 65, 66, 67, 68, 69, 70] } : ByteArray)[d4]'l4).toNat : Int)]) LEN6.out LENB.out (le_alloc HBZ.out _) ?_
                  intro v9 w9 o9 g9 at9
                  obtain ⟨A9, n9, c9, rfl, T9⟩ := St.lies HS.out g9 o9 at9 HNEWS.out
                  have S9 := Lib.hid T9
                  clear o9 g9 at9 T9
                  refine hK.out _ _ trivial (fun hHeld => ?_)
                  clear hK K
                  try go_frame
                  refine wpAnyH_take (i := 17) (v := ?_) rfl (by kernel_rfl) (by kernel_rfl) (by kernel_rfl) (fun _ _ _ h => h) (Or.inl ⟨by rfl, ?_⟩) (by assumption) ?_
                  rotate_left
                  · intro wq hSw
                    go_simp
                    try (with_reducible rfl)
                  try go_frame
                  refine wpAnyH_done (by kernel_rfl) ?_ _
                  go_wp2_with (fail)
                  exact ⟨inv_of _ (k + 1) A9 n9 c9 (m ++ [92, 117, Esq.hx d1, Esq.hx d2, Esq.hx d3, Esq.hx d4]) ⟨by omega, by have := S9.out; rw [HLL.out, List.append_assoc] at this; exact this, HBY.out ▸ HOUT.out, HPV.out⟩ (by kernel_rfl), by simp [intOf]; omega⟩
              · have t1 : (55296 : Int) ≤ (c0 : Int) := by omega
                have t2 : ¬ (c0 : Int) ≤ 56319 := by omega
                have t3 : (56320 : Int) ≤ (c0 : Int) := by omega
                have t4 : (c0 : Int) ≤ 57343 := by have := HNS.out; omega
                go_upto_region 36 with (fail)
                refine wp_region_held_drew (S := fun _ => True) (by kernel_rfl) trivial (fun hHeld => ?_)
                refine wpAnyH_take (i := 0) (v := ?_) rfl (by kernel_rfl) (by kernel_rfl) (by kernel_rfl) (fun _ _ _ h => h) (Or.inl ⟨by rfl, ?_⟩) (by assumption) ?_
                rotate_left
                · intro wq hSw
                  go_simp
                  try (with_reducible rfl)
                try go_frame
                refine wpAnyH_take (i := 1) (v := ?_) rfl (by kernel_rfl) (by kernel_rfl) (by kernel_rfl) (fun _ _ _ h => h) (Or.inl ⟨by rfl, ?_⟩) (by assumption) ?_
                rotate_left
                · intro wq hSw
                  go_simp
                  try (with_reducible rfl)
                try go_frame
                refine wpAnyH_take (i := 2) (v := ?_) rfl (by kernel_rfl) (by kernel_rfl) (by kernel_rfl) (fun _ _ _ h => h) (Or.inl ⟨by rfl, ?_⟩) (by assumption) ?_
                rotate_left
                · intro wq hSw
                  go_simp
                  try (with_reducible rfl)
                try go_frame
                refine wpAnyH_take (i := 3) (v := ?_) rfl (by kernel_rfl) (by kernel_rfl) (by kernel_rfl) (fun _ _ _ h => h) (Or.inl ⟨by rfl, ?_⟩) (by assumption) ?_
                rotate_left
                · intro wq hSw
                  go_simp
                  try (with_reducible rfl)
                try go_frame
                refine wpAnyH_take (i := 4) (v := ?_) rfl (by kernel_rfl) (by kernel_rfl) (by kernel_rfl) (fun _ _ _ h => h) (Or.inl ⟨by rfl, ?_⟩) (by assumption) ?_
                rotate_left
                · intro wq hSw
                  go_simp
                  try (with_reducible rfl)
                try go_frame
                refine wpAnyH_take (i := 5) (v := ?_) rfl (by kernel_rfl) (by kernel_rfl) (by kernel_rfl) (fun _ _ _ h => h) (Or.inl ⟨by rfl, ?_⟩) (by assumption) ?_
                rotate_left
                · intro wq hSw
                  go_simp
                  try (with_reducible rfl)
                try go_frame
                refine wpAnyH_take (i := 6) (v := ?_) rfl (by kernel_rfl) (by kernel_rfl) (by kernel_rfl) (fun _ _ _ h => h) (Or.inl ⟨by rfl, ?_⟩) (by assumption) ?_
                rotate_left
                · intro wq hSw
                  go_simp
                  try (with_reducible rfl)
                try go_frame
                refine wpAnyH_take (i := 7) (v := ?_) rfl (by kernel_rfl) (by kernel_rfl) (by kernel_rfl) (fun _ _ _ h => h) (Or.inl ⟨by rfl, ?_⟩) (by assumption) ?_
                rotate_left
                · intro wq hSw
                  go_simp
                  try (with_reducible rfl)
                try go_frame
                refine wpAnyH_take (i := 8) (v := ?_) rfl (by kernel_rfl) (by kernel_rfl) (by kernel_rfl) (fun _ _ _ h => h) (Or.inl ⟨by rfl, ?_⟩) (by assumption) ?_
                rotate_left
                · intro wq hSw
                  go_simp
                  try (with_reducible rfl)
                try go_frame
                refine wpAnyH_take (i := 9) (v := ?_) rfl (by kernel_rfl) (by kernel_rfl) (by kernel_rfl) (fun _ _ _ h => h) (Or.inl ⟨by rfl, ?_⟩) (by assumption) ?_
                rotate_left
                · intro wq hSw
                  go_simp
                  try (with_reducible rfl)
                try go_frame
                refine wpAnyH_take (i := 10) (v := ?_) rfl (by kernel_rfl) (by kernel_rfl) (by kernel_rfl) (fun _ _ _ h => h) (Or.inl ⟨by rfl, ?_⟩) (by assumption) ?_
                rotate_left
                · intro wq hSw
                  go_simp
                  try (with_reducible rfl)
                try go_frame
                refine wpAnyH_take (i := 11) (v := ?_) rfl (by kernel_rfl) (by kernel_rfl) (by kernel_rfl) (fun _ _ _ h => h) (Or.inl ⟨by rfl, ?_⟩) (by assumption) ?_
                rotate_left
                · intro wq hSw
                  go_simp
                  try (with_reducible rfl)
                try go_frame
                refine wpAnyH_take (i := 12) (v := ?_) rfl (by kernel_rfl) (by kernel_rfl) (by kernel_rfl) (fun _ _ _ h => h) (Or.inl ⟨by rfl, ?_⟩) (by assumption) ?_
                rotate_left
                · intro wq hSw
                  go_simp
                  try (with_reducible rfl)
                try go_frame
                refine wpAnyH_take (i := 13) (v := ?_) rfl (by kernel_rfl) (by kernel_rfl) (by kernel_rfl) (fun _ _ _ h => h) (Or.inl ⟨by rfl, ?_⟩) (by assumption) ?_
                rotate_left
                · intro wq hSw
                  go_simp
                  try (with_reducible rfl)
                try go_frame
                refine wpAnyH_take (i := 14) (v := ?_) rfl (by kernel_rfl) (by kernel_rfl) (by kernel_rfl) (fun _ _ _ h => h) (Or.inl ⟨by rfl, ?_⟩) (by assumption) ?_
                rotate_left
                · intro wq hSw
                  go_simp
                  try (with_reducible rfl)
                try go_frame
                refine wpAnyH_ready (rs := [15]) (by kernel_rfl) (by simp) ?_
                refine AllReadyH.cons rfl (fun K hK => ?_) AllReadyH.nil
                go_simp
                refine hK.out _ _ trivial (fun hHeld => ?_)
                clear hK K
                try go_frame
                refine wpAnyH_ready (rs := [16]) (by kernel_rfl) (by simp) ?_
                refine AllReadyH.cons rfl (fun K hK => ?_) AllReadyH.nil
                refine step_app _ (by rfl) _ _ _ (by rfl) base 5 i0 (.int .u8 0) 1 Tryf.underlying25 HI.out Z0.out Z1.out Z2.out rfl (.slice A n c) (bv L) (by rfl) (Own.drew (Own.alloc HS.out.sl.own _)) ⟨wr.heap.size, 0, none⟩ 6 6 [.int .u8 92, .int .u8 117, .int .u8 ((({ data := #[48, 49, 50, 51, 52, 53, 54, 55, 56, 57, 65, 66, 67, 68, 69, 70] } : ByteArray)[d1]'l1).toNat : Int), .int .u8 ((({ data := #[48, 49, 50, 51, 52, 53, 54, 55, 56, 57, 65, 66, 67, 68, 69, 70] } : ByteArray)[d2]'l2).toNat : Int), .int .u8 ((({ data := #[48, 49, 50, 51, 52, 53, 54, 55, 56, 57, 65, 66, 67, 68, 69, 70] } : ByteArray)[d3]'l3).toNat : Int), .int .u8 ((({ data := #[48, 49, 50, 51, 52, 53, 54, 55, 56, 57, 65, 66, 67, 68, 69, 70] } : ByteArray)[d4]'l4).toNat : Int)] (by rfl) (by rfl) (World.news_of_block (cs := #[.int .u8 92, .int .u8 117, .int .u8 ((({ data := #[48, 49, 50, 51, 52, 53, 54, 55, 56, 57, 65, 66, 67, 68, 69, 70] } : ByteArray)[d1]'l1).toNat : Int), .int .u8 ((({ data := #[48, 49, 50, 51, 52, 53, 54, 55, 56, 57, 65, 66, 67, 68, 69, 70] } : ByteArray)[d2]'l2).toNat : Int), .int .u8 ((({ data := #[48, 49, 50, 51, 52, 53, 54, 55, 56, 57, 65, 66, 67, 68, 69, 70] } : ByteArray)[d3]'l3).toNat : Int), .int .u8 ((({ data := #[48, 49, 50, 51, 52, 53, 54, 55, 56, 57, 65, 66, 67, 68, 69, 70] } : ByteArray)[d4]'l4).toNat : Int)]) (t := 5) (fr := (0, 0)) (heap_alloc_new wr _)) (one_u8 [92, 117, ((({ data := #[48, 49, 50, 51, 52, 53, 54, 55, 56, 57, 65, 66, 67, 68, 69, 70] } : ByteArray)[d1]'l1).toNat : Int), ((({ data := #[48, 49, 50, 51, 52, 53, 54, 55, 56, 57, 65, 66, 67, 68, 69, 70] } : ByteArray)[d2]'l2).toNat : Int), ((({ data := #[48, 49, 50, 51, 52, 53, 54, 55, 56, 57, 65, 66, 67, 68, 69, 70] } : ByteArray)[d3]'l3).toNat : Int), ((({ data := #[48, 49, 50, 51, 52, 53, 54, 55, 56, 57, 65, 66, 67, 68, 69, 70] } : ByteArray)[d4]'l4).toNat : Int)]) LEN6.out LENB.out (le_alloc HBZ.out _) ?_
                intro v9 w9 o9 g9 at9
                obtain ⟨A9, n9, c9, rfl, T9⟩ := St.lies HS.out g9 o9 at9 HNEWS.out
                have S9 := Lib.hid T9
                clear o9 g9 at9 T9
                refine hK.out _ _ trivial (fun hHeld => ?_)
                clear hK K
                try go_frame
                refine wpAnyH_take (i := 17) (v := ?_) rfl (by kernel_rfl) (by kernel_rfl) (by kernel_rfl) (fun _ _ _ h => h) (Or.inl ⟨by rfl, ?_⟩) (by assumption) ?_
                rotate_left
                · intro wq hSw
                  go_simp
                  try (with_reducible rfl)
                try go_frame
                refine wpAnyH_done (by kernel_rfl) ?_ _
                go_wp2_with (fail)
                exact ⟨inv_of _ (k + 1) A9 n9 c9 (m ++ [92, 117, Esq.hx d1, Esq.hx d2, Esq.hx d3, Esq.hx d4]) ⟨by omega, by have := S9.out; rw [HLL.out, List.append_assoc] at this; exact this, HBY.out ▸ HOUT.out, HPV.out⟩ (by kernel_rfl), by simp [intOf]; omega⟩
            · have HBY := Lib.hid (show byt U q k = rune8 ((c0 : Nat) : Int) by rw [HBY3.out]; unfold byt3; rw [← HC0.out, if_neg ha, if_neg hp, if_neg hns])
              have HNX := Lib.hid (show nxt U k = k + 1 by unfold nxt; rw [if_neg hp])
              have HPV : Hid (Pv U (k + 1)) := Lib.hid trivial
              have HOUT : Hid (m ++ byt U q k ++ rest U q (k + 1) = rest U q 0) := Lib.hid (by rw [← HNX.out, List.append_assoc, ← rest_step U q k hk]; exact HM.out)
              have ha31 := hP.cells.2.2.2.2.1
              have tt : c0 < 55296 ∨ (55296 ≤ c0 ∧ 56319 < c0 ∧ 56320 ≤ c0 ∧ 57343 < c0) := by omega
              clear hns hp ha
              rcases tt with tt | ⟨tt, tt2, tt3, tt4⟩
              · have t1 : ¬ (55296 : Int) ≤ (c0 : Int) := by omega
                have t3 : ¬ (56320 : Int) ≤ (c0 : Int) := by omega
                obtain ⟨K, hK⟩ : ∃ K, K = rune8 ((c0 : Nat) : Int) := ⟨_, rfl⟩
                have EN := Lib.hid (enc_st HS.out ((c0 : Nat) : Int) (by omega) (by omega))
                have hkl := rune_len ((c0 : Nat) : Int)
                rw [← hK] at EN hkl HBY
                obtain ⟨kn, hkn⟩ : ∃ kn, kn = K.length := ⟨_, rfl⟩
                rw [← hkn] at EN hkl
                have HKN := Lib.hid hkn
                have hk4 : (kn : Int) ≤ 4 := by omega
                clear hK hkn
                go_upto_region 19 with (first | (go_at_call 20; refine EN.out.mono ?_; rintro e w2 ⟨rfl, s2, rd2, z2, far2⟩) | fail)
                have S2 := Lib.hid s2; have RD2 := Lib.hid rd2
                have HBZ2 := Lib.hid (show base ≤ w2.heap.size by have := HBZ.out; omega)
                clear s2 rd2 far2 EN
                go_wp2_with (at_builtin; refine append_any _ rfl (.tmp 91) (.tmp 94) 25 5 rfl base Tryf.underlying25 (.int .u8 0) 1 rfl (by omega) infoB (.slice A n c) (bv L) rfl S2.out.sl.own w2.heap.size (some ⟨w.heap.size, 0, none⟩) kn 4 (bv K) (by rw [bv_len, HKN.out]) rfl RD2.out (bv_one K) (by rw [bv_len]; omega) HBZ2.out ?_; intro v1 w3 o1 g1 at1; obtain ⟨A3, n3, c3, rfl, T3⟩ := S2.out.part (K := K) g1 o1 at1; have S3 := Lib.hid T3; clear T3 o1 g1 at1)
                exact ⟨inv_of _ (k + 1) A3 n3 c3 (m ++ K) ⟨by omega, by have := S3.out; rw [HLL.out, List.append_assoc] at this; exact this, HBY.out ▸ HOUT.out, HPV.out⟩ (by kernel_rfl), by simp [intOf]; omega⟩
              · have t1 : (55296 : Int) ≤ (c0 : Int) := by omega
                have t2 : ¬ (c0 : Int) ≤ 56319 := by omega
                have t3 : (56320 : Int) ≤ (c0 : Int) := by omega
                have t4 : ¬ (c0 : Int) ≤ 57343 := by omega
                obtain ⟨K, hK⟩ : ∃ K, K = rune8 ((c0 : Nat) : Int) := ⟨_, rfl⟩
                have EN := Lib.hid (enc_st HS.out ((c0 : Nat) : Int) (by omega) (by omega))
                have hkl := rune_len ((c0 : Nat) : Int)
                rw [← hK] at EN hkl HBY
                obtain ⟨kn, hkn⟩ : ∃ kn, kn = K.length := ⟨_, rfl⟩
                rw [← hkn] at EN hkl
                have HKN := Lib.hid hkn
                have hk4 : (kn : Int) ≤ 4 := by omega
                clear hK hkn
                go_upto_region 19 with (first | (go_at_call 20; refine EN.out.mono ?_; rintro e w2 ⟨rfl, s2, rd2, z2, far2⟩) | fail)
                have S2 := Lib.hid s2; have RD2 := Lib.hid rd2
                have HBZ2 := Lib.hid (show base ≤ w2.heap.size by have := HBZ.out; omega)
                clear s2 rd2 far2 EN
                go_wp2_with (at_builtin; refine append_any _ rfl (.tmp 91) (.tmp 94) 25 5 rfl base Tryf.underlying25 (.int .u8 0) 1 rfl (by omega) infoB (.slice A n c) (bv L) rfl S2.out.sl.own w2.heap.size (some ⟨w.heap.size, 0, none⟩) kn 4 (bv K) (by rw [bv_len, HKN.out]) rfl RD2.out (bv_one K) (by rw [bv_len]; omega) HBZ2.out ?_; intro v1 w3 o1 g1 at1; obtain ⟨A3, n3, c3, rfl, T3⟩ := S2.out.part (K := K) g1 o1 at1; have S3 := Lib.hid T3; clear T3 o1 g1 at1)
                exact ⟨inv_of _ (k + 1) A3 n3 c3 (m ++ K) ⟨by omega, by have := S3.out; rw [HLL.out, List.append_assoc] at this; exact this, HBY.out ▸ HOUT.out, HPV.out⟩ (by kernel_rfl), by simp [intOf]; omega⟩
    · have hkl : k = U.length := by omega
      have hr0 := HM.out
      rw [hkl, rest_end U q _ (Nat.le_refl _), List.append_nil] at hr0
      have S3 : Hid (Sl w wr r base A n c (l ++ rest U q 0)) := Lib.hid (by have := HS.out.sl; rw [HLL.out, hr0] at this; exact this)
      have hkn : ¬ (k : Int) < (U.length : Int) := by omega
      obtain ⟨hp1, hd⟩ := Pd_of HP.out HO.out HR.out S3.out
      have d9 := hp1.cell; have f9 := hp1.free; have hz1 := hp1.lt
      have HD := Lib.hid hd
      clear hP HS HM hr0 S3 hp1 hd hkl
      go_wp2_with (fail)
      go_end0
      exact ⟨rfl, _, _, _, HD.out⟩
end Go.Proofs.YtpoakndmajoiaaaFmt.Unq
