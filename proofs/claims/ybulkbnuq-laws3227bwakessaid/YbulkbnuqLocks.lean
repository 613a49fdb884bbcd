import Derived.Test.YbulkbnuqProg
import Derived.Conc.MuLib
import Derived.KernelRfl
namespace Go.Proofs
abbrev Yba.muLink : Go.Conc.Locks.MuLink := { lock := 8, unlock := 7, ilock := 12, iunlock := 11, lockSlow := 20, unlockSlow := 19, disable := 13, enable := 14, acquire := 16, relMerge := 17, cas32 := 15, add32 := 18, tMutex := 38, tIMutex := 36, tPMutex := 60, tPIMutex := 61, tPI32 := 63, tUP := 42, tNoCopy := 27, tU32 := 32 }
theorem Yba.muLib : Go.Conc.Locks.MuLib Yba.prog Yba.muLink :=
  ⟨Yba.func8, Yba.func7, Yba.func12, Yba.func11, Yba.func13, Yba.func14, Yba.func16, Yba.func17, Yba.func15, Yba.func18, Yba.underlying36, Yba.runUnderlying36, Yba.sizeOf36, Yba.isAgg36, Yba.zeroValue36, Yba.underlying38, Yba.runUnderlying38, Yba.sizeOf38, Yba.isAgg38, Yba.zeroValue38, Yba.underlying60, Yba.runUnderlying60, Yba.sizeOf60, Yba.isAgg60, Yba.zeroValue60, Yba.underlying61, Yba.runUnderlying61, Yba.sizeOf61, Yba.isAgg61, Yba.zeroValue61, Yba.underlying63, Yba.runUnderlying63, Yba.sizeOf63, Yba.isAgg63, Yba.zeroValue63, Yba.underlying42, Yba.runUnderlying42, Yba.sizeOf42, Yba.isAgg42, Yba.zeroValue42, Yba.underlying27, Yba.runUnderlying27, Yba.sizeOf27, Yba.isAgg27, Yba.zeroValue27, Yba.underlying21, Yba.runUnderlying21, Yba.sizeOf21, Yba.isAgg21, Yba.zeroValue21, (by kernel_rfl)⟩
end Go.Proofs
