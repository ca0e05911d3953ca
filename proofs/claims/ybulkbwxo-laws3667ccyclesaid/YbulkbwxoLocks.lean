/-
  The numbers under which this dump holds sync.Mutex's functions and types, and that it holds them.
-/
import Derived.Test.YbulkbwxoRows
import Derived.Conc.RwLib
import Derived.Conc.MuData
import Derived.KernelRfl
namespace Go.Proofs.Ybulkbwxo
abbrev Yba.muLink : Go.Conc.Locks.MuLink := { lock := 11, unlock := 7, ilock := 15, iunlock := 13, lockSlow := 23, unlockSlow := 22, disable := 16, enable := 17, acquire := 19, relMerge := 20, cas32 := 18, add32 := 21, tMutex := 33, tIMutex := 31, tPMutex := 51, tPIMutex := 54, tPI32 := 56, tUP := 58, tNoCopy := 28, tU32 := 29 }
theorem Yba.muLib : Go.Conc.Locks.MuLib Yba.prog Yba.muLink :=
  ⟨Yba.func11, Yba.func7, Yba.func15, Yba.func13, Yba.func16, Yba.func17, Yba.func19, Yba.func20, Yba.func18, Yba.func21, Yba.underlying31, Yba.runUnderlying31, Yba.sizeOf31, Yba.isAgg31, Yba.zeroValue31, Yba.underlying33, Yba.runUnderlying33, Yba.sizeOf33, Yba.isAgg33, Yba.zeroValue33, Yba.underlying51, Yba.runUnderlying51, Yba.sizeOf51, Yba.isAgg51, Yba.zeroValue51, Yba.underlying54, Yba.runUnderlying54, Yba.sizeOf54, Yba.isAgg54, Yba.zeroValue54, Yba.underlying56, Yba.runUnderlying56, Yba.sizeOf56, Yba.isAgg56, Yba.zeroValue56, Yba.underlying58, Yba.runUnderlying58, Yba.sizeOf58, Yba.isAgg58, Yba.zeroValue58, Yba.underlying28, Yba.runUnderlying28, Yba.sizeOf28, Yba.isAgg28, Yba.zeroValue28, Yba.underlying21, Yba.runUnderlying21, Yba.sizeOf21, Yba.isAgg21, Yba.zeroValue21, (by kernel_rfl)⟩
theorem Yba.muData : Go.Conc.Locks.MuData Yba.prog Yba.muLink := ⟨Yba.underlying29, by kernel_rfl, by kernel_rfl, by kernel_rfl, by kernel_rfl, by kernel_rfl⟩
end Go.Proofs.Ybulkbwxo
