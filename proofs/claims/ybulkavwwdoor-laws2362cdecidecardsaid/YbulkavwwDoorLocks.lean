/-
  The numbers under which this dump holds the library's lock's functions and types, and that it holds them (after the guide's StatsLocks.lean).
-/
import Derived.Test.YbulkavwwDoorRows
import Derived.Conc.RwLib
import Derived.Conc.MuData
import Derived.KernelRfl
namespace Go.Proofs
abbrev Ybad.muLink : Go.Conc.Locks.MuLink := { lock := 8, unlock := 9, ilock := 12, iunlock := 13, lockSlow := 18, unlockSlow := 21, disable := 14, enable := 16, acquire := 17, relMerge := 19, cas32 := 15, add32 := 20, tMutex := 34, tIMutex := 32, tPMutex := 83, tPIMutex := 84, tPI32 := 86, tUP := 88, tNoCopy := 29, tU32 := 30 }
theorem Ybad.muLib : Go.Conc.Locks.MuLib Ybad.prog Ybad.muLink :=
  ⟨Ybad.func8, Ybad.func9, Ybad.func12, Ybad.func13, Ybad.func14, Ybad.func16, Ybad.func17, Ybad.func19, Ybad.func15, Ybad.func20, Ybad.underlying32, Ybad.runUnderlying32, Ybad.sizeOf32, Ybad.isAgg32, Ybad.zeroValue32, Ybad.underlying34, Ybad.runUnderlying34, Ybad.sizeOf34, Ybad.isAgg34, Ybad.zeroValue34, Ybad.underlying83, Ybad.runUnderlying83, Ybad.sizeOf83, Ybad.isAgg83, Ybad.zeroValue83, Ybad.underlying84, Ybad.runUnderlying84, Ybad.sizeOf84, Ybad.isAgg84, Ybad.zeroValue84, Ybad.underlying86, Ybad.runUnderlying86, Ybad.sizeOf86, Ybad.isAgg86, Ybad.zeroValue86, Ybad.underlying88, Ybad.runUnderlying88, Ybad.sizeOf88, Ybad.isAgg88, Ybad.zeroValue88, Ybad.underlying29, Ybad.runUnderlying29, Ybad.sizeOf29, Ybad.isAgg29, Ybad.zeroValue29, Ybad.underlying21, Ybad.runUnderlying21, Ybad.sizeOf21, Ybad.isAgg21, Ybad.zeroValue21, (by kernel_rfl)⟩
end Go.Proofs
