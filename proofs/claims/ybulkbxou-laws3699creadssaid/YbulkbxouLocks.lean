/-
  The numbers under which this dump holds sync.Mutex's functions and types; that it holds them. (The guide's tool for it does not lie here: typed by hand after the worked StatsLocks.)
-/
import Derived.Test.YbulkbxouRows
import Derived.Conc.MuLib
import Derived.KernelRfl
namespace Go.Proofs.Ybulkbxou
abbrev Yba.muLink : Go.Conc.Locks.MuLink := { lock := 19, unlock := 15, ilock := 25, iunlock := 21, lockSlow := 40, unlockSlow := 32, disable := 26, enable := 27, acquire := 29, relMerge := 30, cas32 := 28, add32 := 31, tMutex := 82, tIMutex := 80, tPMutex := 97, tPIMutex := 103, tPI32 := 105, tUP := 107, tNoCopy := 77, tU32 := 78 }
theorem Yba.muLib : Go.Conc.Locks.MuLib Yba.prog Yba.muLink :=
  ⟨Yba.func19, Yba.func15, Yba.func25, Yba.func21, Yba.func26, Yba.func27, Yba.func29, Yba.func30, Yba.func28, Yba.func31, Yba.underlying80, Yba.runUnderlying80, Yba.sizeOf80, Yba.isAgg80, Yba.zeroValue80, Yba.underlying82, Yba.runUnderlying82, Yba.sizeOf82, Yba.isAgg82, Yba.zeroValue82, Yba.underlying97, Yba.runUnderlying97, Yba.sizeOf97, Yba.isAgg97, Yba.zeroValue97, Yba.underlying103, Yba.runUnderlying103, Yba.sizeOf103, Yba.isAgg103, Yba.zeroValue103, Yba.underlying105, Yba.runUnderlying105, Yba.sizeOf105, Yba.isAgg105, Yba.zeroValue105, Yba.underlying107, Yba.runUnderlying107, Yba.sizeOf107, Yba.isAgg107, Yba.zeroValue107, Yba.underlying77, Yba.runUnderlying77, Yba.sizeOf77, Yba.isAgg77, Yba.zeroValue77, Yba.underlying21, Yba.runUnderlying21, Yba.sizeOf21, Yba.isAgg21, Yba.zeroValue21, (by kernel_rfl)⟩
end Go.Proofs.Ybulkbxou
