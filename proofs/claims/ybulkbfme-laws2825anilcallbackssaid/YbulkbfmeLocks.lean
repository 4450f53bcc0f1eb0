/-
  The numbers under which this dump holds the library's mutex, and that it holds it (the kit's text for another toy, turned to this program).
-/
import Derived.Test.YbulkbfmeProg
import Derived.Conc.MuData
import Derived.KernelRfl
namespace Go.Proofs
abbrev Yba.muLink : Go.Conc.Locks.MuLink := { lock := 24, unlock := 26, ilock := 30, iunlock := 31, lockSlow := 36, unlockSlow := 39, disable := 32, enable := 34, acquire := 35, relMerge := 37, cas32 := 33, add32 := 38, tMutex := 79, tIMutex := 77, tPMutex := 98, tPIMutex := 99, tPI32 := 101, tUP := 103, tNoCopy := 74, tU32 := 75 }
theorem Yba.muLib : Go.Conc.Locks.MuLib Yba.prog Yba.muLink :=
  ⟨Yba.func24, Yba.func26, Yba.func30, Yba.func31, Yba.func32, Yba.func34, Yba.func35, Yba.func37, Yba.func33, Yba.func38, Yba.underlying77, Yba.runUnderlying77, Yba.sizeOf77, Yba.isAgg77, Yba.zeroValue77, Yba.underlying79, Yba.runUnderlying79, Yba.sizeOf79, Yba.isAgg79, Yba.zeroValue79, Yba.underlying98, Yba.runUnderlying98, Yba.sizeOf98, Yba.isAgg98, Yba.zeroValue98, Yba.underlying99, Yba.runUnderlying99, Yba.sizeOf99, Yba.isAgg99, Yba.zeroValue99, Yba.underlying101, Yba.runUnderlying101, Yba.sizeOf101, Yba.isAgg101, Yba.zeroValue101, Yba.underlying103, Yba.runUnderlying103, Yba.sizeOf103, Yba.isAgg103, Yba.zeroValue103, Yba.underlying74, Yba.runUnderlying74, Yba.sizeOf74, Yba.isAgg74, Yba.zeroValue74, Yba.underlying21, Yba.runUnderlying21, Yba.sizeOf21, Yba.isAgg21, Yba.zeroValue21, (by kernel_rfl)⟩
end Go.Proofs
