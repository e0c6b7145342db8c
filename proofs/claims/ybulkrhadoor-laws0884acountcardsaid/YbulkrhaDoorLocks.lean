import Derived.Test.YbulkrhaDoorProg
import Derived.Conc.RwLib
import Derived.Conc.MuData
import Derived.KernelRfl
namespace Go.Proofs
abbrev Ybad.muLink : Go.Conc.Locks.MuLink := { lock := 8, unlock := 9, ilock := 11, iunlock := 12, lockSlow := 17, unlockSlow := 20, disable := 13, enable := 15, acquire := 16, relMerge := 18, cas32 := 14, add32 := 19, tMutex := 38, tIMutex := 36, tPMutex := 45, tPIMutex := 85, tPI32 := 87, tUP := 89, tNoCopy := 33, tU32 := 34 }
theorem Ybad.muLib : Go.Conc.Locks.MuLib Ybad.prog Ybad.muLink :=
  ⟨Ybad.func8, Ybad.func9, Ybad.func11, Ybad.func12, Ybad.func13, Ybad.func15, Ybad.func16, Ybad.func18, Ybad.func14, Ybad.func19, Ybad.underlying36, Ybad.runUnderlying36, Ybad.sizeOf36, Ybad.isAgg36, Ybad.zeroValue36, Ybad.underlying38, Ybad.runUnderlying38, Ybad.sizeOf38, Ybad.isAgg38, Ybad.zeroValue38, Ybad.underlying45, Ybad.runUnderlying45, Ybad.sizeOf45, Ybad.isAgg45, Ybad.zeroValue45, Ybad.underlying85, Ybad.runUnderlying85, Ybad.sizeOf85, Ybad.isAgg85, Ybad.zeroValue85, Ybad.underlying87, Ybad.runUnderlying87, Ybad.sizeOf87, Ybad.isAgg87, Ybad.zeroValue87, Ybad.underlying89, Ybad.runUnderlying89, Ybad.sizeOf89, Ybad.isAgg89, Ybad.zeroValue89, Ybad.underlying33, Ybad.runUnderlying33, Ybad.sizeOf33, Ybad.isAgg33, Ybad.zeroValue33, Ybad.underlying21, Ybad.runUnderlying21, Ybad.sizeOf21, Ybad.isAgg21, Ybad.zeroValue21, (by kernel_rfl)⟩
end Go.Proofs
