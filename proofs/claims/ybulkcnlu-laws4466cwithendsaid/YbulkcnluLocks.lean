/-
  The numbers under which this dump holds sync.Mutex's functions and types, and that it holds them.
-/
import Derived.Test.YbulkcnluProg
import Derived.Conc.RwLib
import Derived.Conc.MuData
import Derived.KernelRfl
namespace Go.Proofs
abbrev Yba.muLink : Go.Conc.Locks.MuLink := { lock := 11, unlock := 12, ilock := 16, iunlock := 17, lockSlow := 25, unlockSlow := 28, disable := 21, enable := 23, acquire := 24, relMerge := 26, cas32 := 22, add32 := 27, tMutex := 33, tIMutex := 31, tPMutex := 56, tPIMutex := 61, tPI32 := 63, tUP := 65, tNoCopy := 28, tU32 := 29 }
theorem Yba.muLib : Go.Conc.Locks.MuLib Yba.prog Yba.muLink :=
  ⟨Yba.func11, Yba.func12, Yba.func16, Yba.func17, Yba.func21, Yba.func23, Yba.func24, Yba.func26, Yba.func22, Yba.func27, Yba.underlying31, Yba.runUnderlying31, Yba.sizeOf31, Yba.isAgg31, Yba.zeroValue31, Yba.underlying33, Yba.runUnderlying33, Yba.sizeOf33, Yba.isAgg33, Yba.zeroValue33, Yba.underlying56, Yba.runUnderlying56, Yba.sizeOf56, Yba.isAgg56, Yba.zeroValue56, Yba.underlying61, Yba.runUnderlying61, Yba.sizeOf61, Yba.isAgg61, Yba.zeroValue61, Yba.underlying63, Yba.runUnderlying63, Yba.sizeOf63, Yba.isAgg63, Yba.zeroValue63, Yba.underlying65, Yba.runUnderlying65, Yba.sizeOf65, Yba.isAgg65, Yba.zeroValue65, Yba.underlying28, Yba.runUnderlying28, Yba.sizeOf28, Yba.isAgg28, Yba.zeroValue28, Yba.underlying21, Yba.runUnderlying21, Yba.sizeOf21, Yba.isAgg21, Yba.zeroValue21, (by kernel_rfl)⟩
end Go.Proofs
