/- The numbers under which this dump holds sync.Mutex's functions and types, and that it holds them. -/
import Derived.Test.YtabjelcbldjedaaFmtProg
import Derived.Conc.RwLib
import Derived.Conc.MuData
import Derived.KernelRfl
namespace Go.Proofs
abbrev Tryf.muLink : Go.Conc.Locks.MuLink := { lock := 9, unlock := 10, ilock := 20, iunlock := 21, lockSlow := 28, unlockSlow := 31, disable := 24, enable := 26, acquire := 27, relMerge := 29, cas32 := 25, add32 := 30, tMutex := 50, tIMutex := 48, tPMutex := 68, tPIMutex := 75, tPI32 := 77, tUP := 79, tNoCopy := 45, tU32 := 46 }
theorem Tryf.muLib : Go.Conc.Locks.MuLib Tryf.prog Tryf.muLink :=
  ⟨Tryf.func9, Tryf.func10, Tryf.func20, Tryf.func21, Tryf.func24, Tryf.func26, Tryf.func27, Tryf.func29, Tryf.func25, Tryf.func30, Tryf.underlying48, Tryf.runUnderlying48, Tryf.sizeOf48, Tryf.isAgg48, Tryf.zeroValue48, Tryf.underlying50, Tryf.runUnderlying50, Tryf.sizeOf50, Tryf.isAgg50, Tryf.zeroValue50, Tryf.underlying68, Tryf.runUnderlying68, Tryf.sizeOf68, Tryf.isAgg68, Tryf.zeroValue68, Tryf.underlying75, Tryf.runUnderlying75, Tryf.sizeOf75, Tryf.isAgg75, Tryf.zeroValue75, Tryf.underlying77, Tryf.runUnderlying77, Tryf.sizeOf77, Tryf.isAgg77, Tryf.zeroValue77, Tryf.underlying79, Tryf.runUnderlying79, Tryf.sizeOf79, Tryf.isAgg79, Tryf.zeroValue79, Tryf.underlying45, Tryf.runUnderlying45, Tryf.sizeOf45, Tryf.isAgg45, Tryf.zeroValue45, Tryf.underlying21, Tryf.runUnderlying21, Tryf.sizeOf21, Tryf.isAgg21, Tryf.zeroValue21, (by kernel_rfl)⟩
end Go.Proofs
