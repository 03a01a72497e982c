/-
  OWN TEXT. The numbers under which this dump holds sync.Mutex's functions and types, in the form of the kit's lock chapter; checked by the kernel.
-/
import Derived.Test.YbulkgzkProg
import Derived.Conc.MuLone
import Derived.KernelRfl
namespace Go.Proofs
abbrev Yba.muLink : Go.Conc.Locks.MuLink := { lock := 22, unlock := 23, ilock := 32, iunlock := 33, lockSlow := 54, unlockSlow := 57, disable := 50, enable := 52, acquire := 53, relMerge := 55, cas32 := 51, add32 := 56, tMutex := 44, tIMutex := 42, tPMutex := 83, tPIMutex := 115, tPI32 := 117, tUP := 47, tNoCopy := 40, tU32 := 24 }
theorem Yba.muLib : Go.Conc.Locks.MuLib Yba.prog Yba.muLink :=
  ⟨Yba.func22, Yba.func23, Yba.func32, Yba.func33, Yba.func50, Yba.func52, Yba.func53, Yba.func55, Yba.func51, Yba.func56, Yba.underlying42, Yba.runUnderlying42, Yba.sizeOf42, Yba.isAgg42, Yba.zeroValue42, Yba.underlying44, Yba.runUnderlying44, Yba.sizeOf44, Yba.isAgg44, Yba.zeroValue44, Yba.underlying83, Yba.runUnderlying83, Yba.sizeOf83, Yba.isAgg83, Yba.zeroValue83, Yba.underlying115, Yba.runUnderlying115, Yba.sizeOf115, Yba.isAgg115, Yba.zeroValue115, Yba.underlying117, Yba.runUnderlying117, Yba.sizeOf117, Yba.isAgg117, Yba.zeroValue117, Yba.underlying47, Yba.runUnderlying47, Yba.sizeOf47, Yba.isAgg47, Yba.zeroValue47, Yba.underlying40, Yba.runUnderlying40, Yba.sizeOf40, Yba.isAgg40, Yba.zeroValue40, Yba.underlying21, Yba.runUnderlying21, Yba.sizeOf21, Yba.isAgg21, Yba.zeroValue21, (by kernel_rfl)⟩
end Go.Proofs
