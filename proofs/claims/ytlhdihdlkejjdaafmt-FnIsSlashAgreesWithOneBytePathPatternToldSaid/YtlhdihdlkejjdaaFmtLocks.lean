/- The numbers under which this dump holds sync.Mutex's functions and types, and that it holds them. -/
import Derived.Test.YtlhdihdlkejjdaaFmtProg
import Derived.Conc.RwLib
import Derived.Conc.MuData
import Derived.KernelRfl
namespace Go.Proofs
abbrev Tryf.muLink : Go.Conc.Locks.MuLink := { lock := 17, unlock := 18, ilock := 26, iunlock := 27, lockSlow := 35, unlockSlow := 38, disable := 31, enable := 33, acquire := 34, relMerge := 36, cas32 := 32, add32 := 37, tMutex := 66, tIMutex := 64, tPMutex := 80, tPIMutex := 88, tPI32 := 90, tUP := 92, tNoCopy := 62, tU32 := 47 }
theorem Tryf.muLib : Go.Conc.Locks.MuLib Tryf.prog Tryf.muLink :=
  ⟨Tryf.func17, Tryf.func18, Tryf.func26, Tryf.func27, Tryf.func31, Tryf.func33, Tryf.func34, Tryf.func36, Tryf.func32, Tryf.func37, Tryf.underlying64, Tryf.runUnderlying64, Tryf.sizeOf64, Tryf.isAgg64, Tryf.zeroValue64, Tryf.underlying66, Tryf.runUnderlying66, Tryf.sizeOf66, Tryf.isAgg66, Tryf.zeroValue66, Tryf.underlying80, Tryf.runUnderlying80, Tryf.sizeOf80, Tryf.isAgg80, Tryf.zeroValue80, Tryf.underlying88, Tryf.runUnderlying88, Tryf.sizeOf88, Tryf.isAgg88, Tryf.zeroValue88, Tryf.underlying90, Tryf.runUnderlying90, Tryf.sizeOf90, Tryf.isAgg90, Tryf.zeroValue90, Tryf.underlying92, Tryf.runUnderlying92, Tryf.sizeOf92, Tryf.isAgg92, Tryf.zeroValue92, Tryf.underlying62, Tryf.runUnderlying62, Tryf.sizeOf62, Tryf.isAgg62, Tryf.zeroValue62, Tryf.underlying21, Tryf.runUnderlying21, Tryf.sizeOf21, Tryf.isAgg21, Tryf.zeroValue21, (by kernel_rfl)⟩
end Go.Proofs
