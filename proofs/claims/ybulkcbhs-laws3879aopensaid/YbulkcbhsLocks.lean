/- seat b3879a: the numbers under which this dump holds sync.Mutex's functions and types; checked by the kernel as it is compiled -/
import Derived.Test.YbulkcbhsProg
import Derived.Conc.RwLib
import Derived.KernelRfl
namespace Go.Proofs
abbrev Yba.muLink : Go.Conc.Locks.MuLink := { lock := 10, unlock := 8, ilock := 15, iunlock := 14, lockSlow := 23, unlockSlow := 22, disable := 16, enable := 17, acquire := 19, relMerge := 20, cas32 := 18, add32 := 21, tMutex := 35, tIMutex := 33, tPMutex := 62, tPIMutex := 63, tPI32 := 65, tUP := 67, tNoCopy := 30, tU32 := 31 }
theorem Yba.muLib : Go.Conc.Locks.MuLib Yba.prog Yba.muLink :=
  ⟨Yba.func10, Yba.func8, Yba.func15, Yba.func14, Yba.func16, Yba.func17, Yba.func19, Yba.func20, Yba.func18, Yba.func21, Yba.underlying33, Yba.runUnderlying33, Yba.sizeOf33, Yba.isAgg33, Yba.zeroValue33, Yba.underlying35, Yba.runUnderlying35, Yba.sizeOf35, Yba.isAgg35, Yba.zeroValue35, Yba.underlying62, Yba.runUnderlying62, Yba.sizeOf62, Yba.isAgg62, Yba.zeroValue62, Yba.underlying63, Yba.runUnderlying63, Yba.sizeOf63, Yba.isAgg63, Yba.zeroValue63, Yba.underlying65, Yba.runUnderlying65, Yba.sizeOf65, Yba.isAgg65, Yba.zeroValue65, Yba.underlying67, Yba.runUnderlying67, Yba.sizeOf67, Yba.isAgg67, Yba.zeroValue67, Yba.underlying30, Yba.runUnderlying30, Yba.sizeOf30, Yba.isAgg30, Yba.zeroValue30, Yba.underlying21, Yba.runUnderlying21, Yba.sizeOf21, Yba.isAgg21, Yba.zeroValue21, (by kernel_rfl)⟩
end Go.Proofs
