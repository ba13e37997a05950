/-
  The numbers under which this dump holds sync.Mutex's functions and types, and that it holds them (after the kit's worked StatsLocks; typed by hand: the printer is not in this kit).
-/
import Derived.Test.YbulkchjmProg
import Derived.Conc.MuLone
import Derived.KernelRfl
namespace Go.Proofs
abbrev Yba.muLink : Go.Conc.Locks.MuLink := { lock := 14, unlock := 15, ilock := 20, iunlock := 21, lockSlow := 28, unlockSlow := 31, disable := 24, enable := 26, acquire := 27, relMerge := 29, cas32 := 25, add32 := 30, tMutex := 40, tIMutex := 38, tPMutex := 56, tPIMutex := 59, tPI32 := 61, tUP := 63, tNoCopy := 35, tU32 := 36 }
theorem Yba.muLib : Go.Conc.Locks.MuLib Yba.prog Yba.muLink :=
  ⟨Yba.func14, Yba.func15, Yba.func20, Yba.func21, Yba.func24, Yba.func26, Yba.func27, Yba.func29, Yba.func25, Yba.func30, Yba.underlying38, Yba.runUnderlying38, Yba.sizeOf38, Yba.isAgg38, Yba.zeroValue38, Yba.underlying40, Yba.runUnderlying40, Yba.sizeOf40, Yba.isAgg40, Yba.zeroValue40, Yba.underlying56, Yba.runUnderlying56, Yba.sizeOf56, Yba.isAgg56, Yba.zeroValue56, Yba.underlying59, Yba.runUnderlying59, Yba.sizeOf59, Yba.isAgg59, Yba.zeroValue59, Yba.underlying61, Yba.runUnderlying61, Yba.sizeOf61, Yba.isAgg61, Yba.zeroValue61, Yba.underlying63, Yba.runUnderlying63, Yba.sizeOf63, Yba.isAgg63, Yba.zeroValue63, Yba.underlying35, Yba.runUnderlying35, Yba.sizeOf35, Yba.isAgg35, Yba.zeroValue35, Yba.underlying21, Yba.runUnderlying21, Yba.sizeOf21, Yba.isAgg21, Yba.zeroValue21, (by kernel_rfl)⟩
end Go.Proofs
