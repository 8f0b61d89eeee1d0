/-
  The numbers under which this dump holds sync.Mutex's functions and types, and that it holds them.
-/
import Derived.Test.YbulkeilaRows
import Derived.Conc.MuLone
import Derived.WalkKit
namespace Go.Proofs.Ybulkeila
open Go.RowKit Go.MuLone

abbrev Yba.muLink : Go.Conc.Locks.MuLink := { lock := 9, unlock := 10, ilock := 13, iunlock := 14, lockSlow := 19, unlockSlow := 22, disable := 15, enable := 17, acquire := 18, relMerge := 20, cas32 := 16, add32 := 21, tMutex := 39, tIMutex := 37, tPMutex := 85, tPIMutex := 86, tPI32 := 88, tUP := 90, tNoCopy := 31, tU32 := 33 }
theorem Yba.muLib : Go.Conc.Locks.MuLib Yba.prog Yba.muLink :=
  ⟨Yba.func9, Yba.func10, Yba.func13, Yba.func14, Yba.func15, Yba.func17, Yba.func18, Yba.func20, Yba.func16, Yba.func21, Yba.underlying37, Yba.runUnderlying37, Yba.sizeOf37, Yba.isAgg37, Yba.zeroValue37, Yba.underlying39, Yba.runUnderlying39, Yba.sizeOf39, Yba.isAgg39, Yba.zeroValue39, Yba.underlying85, Yba.runUnderlying85, Yba.sizeOf85, Yba.isAgg85, Yba.zeroValue85, Yba.underlying86, Yba.runUnderlying86, Yba.sizeOf86, Yba.isAgg86, Yba.zeroValue86, Yba.underlying88, Yba.runUnderlying88, Yba.sizeOf88, Yba.isAgg88, Yba.zeroValue88, Yba.underlying90, Yba.runUnderlying90, Yba.sizeOf90, Yba.isAgg90, Yba.zeroValue90, Yba.underlying31, Yba.runUnderlying31, Yba.sizeOf31, Yba.isAgg31, Yba.zeroValue31, Yba.underlying21, Yba.runUnderlying21, Yba.sizeOf21, Yba.isAgg21, Yba.zeroValue21, (by kernel_rfl)⟩

end Go.Proofs.Ybulkeila
