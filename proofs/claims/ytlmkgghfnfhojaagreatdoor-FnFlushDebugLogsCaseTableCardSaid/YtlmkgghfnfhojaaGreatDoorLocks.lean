/- The numbers under which this dump holds sync.Mutex's functions and types, and that it holds them. -/
import Derived.Test.YtlmkgghfnfhojaaGreatDoorProg
import Derived.Conc.RwLib
import Derived.Conc.MuData
import Derived.KernelRfl
namespace Go.Proofs
abbrev Tryz.muLink : Go.Conc.Locks.MuLink := { lock := 19, unlock := 20, ilock := 26, iunlock := 27, lockSlow := 35, unlockSlow := 38, disable := 31, enable := 33, acquire := 34, relMerge := 36, cas32 := 32, add32 := 37, tMutex := 127, tIMutex := 125, tPMutex := 135, tPIMutex := 144, tPI32 := 146, tUP := 148, tNoCopy := 123, tU32 := 94 }
theorem Tryz.muLib : Go.Conc.Locks.MuLib Tryz.prog Tryz.muLink :=
  ⟨Tryz.func19, Tryz.func20, Tryz.func26, Tryz.func27, Tryz.func31, Tryz.func33, Tryz.func34, Tryz.func36, Tryz.func32, Tryz.func37, Tryz.underlying125, Tryz.runUnderlying125, Tryz.sizeOf125, Tryz.isAgg125, Tryz.zeroValue125, Tryz.underlying127, Tryz.runUnderlying127, Tryz.sizeOf127, Tryz.isAgg127, Tryz.zeroValue127, Tryz.underlying135, Tryz.runUnderlying135, Tryz.sizeOf135, Tryz.isAgg135, Tryz.zeroValue135, Tryz.underlying144, Tryz.runUnderlying144, Tryz.sizeOf144, Tryz.isAgg144, Tryz.zeroValue144, Tryz.underlying146, Tryz.runUnderlying146, Tryz.sizeOf146, Tryz.isAgg146, Tryz.zeroValue146, Tryz.underlying148, Tryz.runUnderlying148, Tryz.sizeOf148, Tryz.isAgg148, Tryz.zeroValue148, Tryz.underlying123, Tryz.runUnderlying123, Tryz.sizeOf123, Tryz.isAgg123, Tryz.zeroValue123, Tryz.underlying21, Tryz.runUnderlying21, Tryz.sizeOf21, Tryz.isAgg21, Tryz.zeroValue21, (by kernel_rfl)⟩
end Go.Proofs
