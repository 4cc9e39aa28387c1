/- The numbers under which this dump holds sync.Mutex's functions and types, and that it holds them. -/
import Derived.Test.YtfjiejndnbnkfaaFmtProg
import Derived.Conc.RwLib
import Derived.Conc.MuData
import Derived.KernelRfl
namespace Go.Proofs
abbrev Tryf.muLink : Go.Conc.Locks.MuLink := { lock := 16, unlock := 17, ilock := 23, iunlock := 24, lockSlow := 31, unlockSlow := 34, disable := 27, enable := 29, acquire := 30, relMerge := 32, cas32 := 28, add32 := 33, tMutex := 57, tIMutex := 55, tPMutex := 68, tPIMutex := 74, tPI32 := 76, tUP := 78, tNoCopy := 52, tU32 := 53 }
theorem Tryf.muLib : Go.Conc.Locks.MuLib Tryf.prog Tryf.muLink :=
  ⟨Tryf.func16, Tryf.func17, Tryf.func23, Tryf.func24, Tryf.func27, Tryf.func29, Tryf.func30, Tryf.func32, Tryf.func28, Tryf.func33, Tryf.underlying55, Tryf.runUnderlying55, Tryf.sizeOf55, Tryf.isAgg55, Tryf.zeroValue55, Tryf.underlying57, Tryf.runUnderlying57, Tryf.sizeOf57, Tryf.isAgg57, Tryf.zeroValue57, Tryf.underlying68, Tryf.runUnderlying68, Tryf.sizeOf68, Tryf.isAgg68, Tryf.zeroValue68, Tryf.underlying74, Tryf.runUnderlying74, Tryf.sizeOf74, Tryf.isAgg74, Tryf.zeroValue74, Tryf.underlying76, Tryf.runUnderlying76, Tryf.sizeOf76, Tryf.isAgg76, Tryf.zeroValue76, Tryf.underlying78, Tryf.runUnderlying78, Tryf.sizeOf78, Tryf.isAgg78, Tryf.zeroValue78, Tryf.underlying52, Tryf.runUnderlying52, Tryf.sizeOf52, Tryf.isAgg52, Tryf.zeroValue52, Tryf.underlying21, Tryf.runUnderlying21, Tryf.sizeOf21, Tryf.isAgg21, Tryf.zeroValue21, (by kernel_rfl)⟩
end Go.Proofs
