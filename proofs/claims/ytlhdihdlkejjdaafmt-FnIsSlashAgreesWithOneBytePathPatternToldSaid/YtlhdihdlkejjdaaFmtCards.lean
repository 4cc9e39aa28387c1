/-
  DERIVED. GIVEN WITH THE SEED: THE CARDS: each row of YtlhdihdlkejjdaaFmtRows.lean that lists a variable, with what it lists TIED to the program's text (the seventh form; the later family's looks); each row that meets fmt, with fmt's text TOLD by the authors' own Lean function (tested against real Go, not proved from fmt's source: count such statements apart). THE CARD IS WHAT COUNTS. Prove the row's statement (the work); the ties are given (YtlhdihdlkejjdaaFmtTie.lean); close each card by the builder's one call (the guide's Derived/Test/ToyasCard.lean, 'card_holds'). Laid BY PROGRAM, IN A SANDBOX (cutbox-door.mjs). By AI agents, Wed Nov 11 2026. No macro, syntax, notation, axiom, sorry.
-/
import Derived.Test.YtlhdihdlkejjdaaFmtRows
import GoSem.ClaimSeven
namespace Go.Proofs.YtlhdihdlkejjdaaFmt
namespace Rows

/-- THE TOLD AND TIED CARD OF 'n011_22.FnIsSlashAgreesWithOneBytePathPattern'. -/
def fnIsSlashAgreesWithOneBytePathPatternCard : Claim7 := { stood := { row := fnIsSlashAgreesWithOneBytePathPatternRow, standIns := [], harness := (true, "f897a45d055e06ceb065881b358d14dc9aeb7b5e24d53b40f8592818f4301580"), looks := false }, told := true, laidByText := true, laidKinds := [.data, .pinned], laidTests := true, laidLooks := .later, goes := false }
def FnIsSlashAgreesWithOneBytePathPatternToldSaid : Prop := Claim7.holds Tryf.pinned (.plain (OpenSpec.ofChange fnIsSlashAgreesWithOneBytePathPatternSpec)) fnIsSlashAgreesWithOneBytePathPatternCard
/-- ITS FALSE NEIGHBOUR. Refute it at one input. -/
def FnIsSlashAgreesWithOneBytePathPatternToldWrongFalsely : Prop := Claim7.holds Tryf.pinned (.plain (OpenSpec.ofChange fnIsSlashAgreesWithOneBytePathPatternWrong)) fnIsSlashAgreesWithOneBytePathPatternCard

/-- THE TOLD AND TIED CARD OF 'n011_22.FnNoBaseURLPatternDecidedByFirstThreeBytes'. -/
def fnNoBaseURLPatternDecidedByFirstThreeBytesCard : Claim7 := { stood := { row := fnNoBaseURLPatternDecidedByFirstThreeBytesRow, standIns := [], harness := (true, "f897a45d055e06ceb065881b358d14dc9aeb7b5e24d53b40f8592818f4301580"), looks := false }, told := true, laidByText := true, laidKinds := [.data, .pinned], laidTests := true, laidLooks := .later, goes := false }
def FnNoBaseURLPatternDecidedByFirstThreeBytesToldSaid : Prop := Claim7.holds Tryf.pinned (.plain (OpenSpec.ofChange fnNoBaseURLPatternDecidedByFirstThreeBytesSpec)) fnNoBaseURLPatternDecidedByFirstThreeBytesCard
/-- ITS FALSE NEIGHBOUR. Refute it at one input. -/
def FnNoBaseURLPatternDecidedByFirstThreeBytesToldWrongFalsely : Prop := Claim7.holds Tryf.pinned (.plain (OpenSpec.ofChange fnNoBaseURLPatternDecidedByFirstThreeBytesWrong)) fnNoBaseURLPatternDecidedByFirstThreeBytesCard

/-- THE TOLD AND TIED CARD OF 'n011_22.FnPathPatternWarnsOnceAndIsPrefixClosed'. -/
def fnPathPatternWarnsOnceAndIsPrefixClosedCard : Claim7 := { stood := { row := fnPathPatternWarnsOnceAndIsPrefixClosedRow, standIns := [], harness := (true, "f897a45d055e06ceb065881b358d14dc9aeb7b5e24d53b40f8592818f4301580"), looks := false }, told := true, laidByText := true, laidKinds := [.data, .pinned], laidTests := true, laidLooks := .later, goes := false }
def FnPathPatternWarnsOnceAndIsPrefixClosedToldSaid : Prop := Claim7.holds Tryf.pinned (.plain (OpenSpec.ofChange fnPathPatternWarnsOnceAndIsPrefixClosedSpec)) fnPathPatternWarnsOnceAndIsPrefixClosedCard
/-- ITS FALSE NEIGHBOUR. Refute it at one input. -/
def FnPathPatternWarnsOnceAndIsPrefixClosedToldWrongFalsely : Prop := Claim7.holds Tryf.pinned (.plain (OpenSpec.ofChange fnPathPatternWarnsOnceAndIsPrefixClosedWrong)) fnPathPatternWarnsOnceAndIsPrefixClosedCard
end Rows
end Go.Proofs.YtlhdihdlkejjdaaFmt
