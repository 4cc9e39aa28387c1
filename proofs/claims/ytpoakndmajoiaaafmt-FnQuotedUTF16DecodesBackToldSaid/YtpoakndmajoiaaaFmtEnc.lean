/- utf8.EncodeRune by the library's contract, laid at this dump. -/
import Derived.Shelf.Spec.EncodeRune
import Derived.Test.YtpoakndmajoiaaaFmtProg
namespace Go.Proofs.YtpoakndmajoiaaaFmt.Enc
open Go.Shelf Go.RowKit Go.Proofs
set_option linter.unusedVariables false
def ren30 : Go.Shelf.Ren := ⟨fun | 30 => 20 | 47 => 21 | n => n, fun | 25 => 37 | 27 => 60 | 30 => 25 | n => n, fun | n => n⟩
theorem lays30 : Lays7.n30 Tryf.prog ren30 := {
  mixed := by kernel_rfl
  f30 := Tryf.func20.trans (congrArg some (by kernel_rfl))
  f47 := Tryf.func21.trans (congrArg some (by kernel_rfl))
  t0 := Tryf.underlying0
  a0 := Tryf.isAgg0
  z0 := Tryf.sizeOf0
  v0 := Tryf.zeroValue0
  i0 := by kernel_rfl
  t3 := Tryf.underlying3
  a3 := Tryf.isAgg3
  z3 := Tryf.sizeOf3
  v3 := Tryf.zeroValue3
  i3 := by kernel_rfl
  t4 := Tryf.underlying4
  a4 := Tryf.isAgg4
  z4 := Tryf.sizeOf4
  v4 := Tryf.zeroValue4
  i4 := by kernel_rfl
  t5 := Tryf.underlying5
  a5 := Tryf.isAgg5
  z5 := Tryf.sizeOf5
  v5 := Tryf.zeroValue5
  i5 := by kernel_rfl
  t21 := Tryf.underlying21
  a21 := Tryf.isAgg21
  z21 := Tryf.sizeOf21
  v21 := Tryf.zeroValue21
  i21 := by kernel_rfl
  t25 := Tryf.underlying37
  a25 := Tryf.isAgg37
  z25 := Tryf.sizeOf37
  v25 := Tryf.zeroValue37
  i25 := by kernel_rfl
  t27 := Tryf.underlying60
  a27 := Tryf.isAgg60
  z27 := Tryf.sizeOf60
  v27 := Tryf.zeroValue60
  i27 := by kernel_rfl
  t30 := Tryf.underlying25
  a30 := Tryf.isAgg25
  z30 := Tryf.sizeOf25
  v30 := Tryf.zeroValue25
  i30 := by kernel_rfl }
/-- EncodeRune into four cells of a block: the rune's bytes stand ahead, their number comes back. -/
theorem enc36 (b len cap : Nat) (r : Int) (hlo : -2147483648 ≤ r) (hhi : r ≤ 2147483647) (w : World) (hl : (Lib.runeCells r).length ≤ len)
    (hc : ∀ j, j < (Lib.runeCells r).length → (w.cell? ⟨b, 0 + j, none⟩).isSome = true) (hf : ∀ j, j < (Lib.runeCells r).length → w.frozen? ⟨b, 0 + j, none⟩ = false) :
    Calls Tryf.prog 20 #[.slice (some ⟨b, 0, none⟩) len cap, .int .i32 r] w fun e w' => e = .returned (.int .i64 (Lib.runeCells r).length) ∧ w' = w.setCells b 0 (Lib.runeCells r) :=
  Any7.utf8_EncodeRune lays30 b 0 len cap r hlo hhi w hl hc hf
end Go.Proofs.YtpoakndmajoiaaaFmt.Enc
