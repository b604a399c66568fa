/-
  The numbers under which this dump holds sync.Mutex's functions and types, and that it holds them (Derived/Conc/MuLib.lean). The kernel checks every number.
-/
import Derived.Test.YbulkisProg
import Derived.Conc.MuLone
import Derived.KernelRfl
namespace Go.Proofs
abbrev Yba.muLink : Go.Conc.Locks.MuLink := { lock := 12, unlock := 13, ilock := 15, iunlock := 16, lockSlow := 23, unlockSlow := 26, disable := 19, enable := 21, acquire := 22, relMerge := 24, cas32 := 20, add32 := 25, tMutex := 47, tIMutex := 45, tPMutex := 64, tPIMutex := 67, tPI32 := 69, tUP := 71, tNoCopy := 33, tU32 := 39 }
theorem Yba.muLib : Go.Conc.Locks.MuLib Yba.prog Yba.muLink :=
  ⟨Yba.func12, Yba.func13, Yba.func15, Yba.func16, Yba.func19, Yba.func21, Yba.func22, Yba.func24, Yba.func20, Yba.func25, Yba.underlying45, Yba.runUnderlying45, Yba.sizeOf45, Yba.isAgg45, Yba.zeroValue45, Yba.underlying47, Yba.runUnderlying47, Yba.sizeOf47, Yba.isAgg47, Yba.zeroValue47, Yba.underlying64, Yba.runUnderlying64, Yba.sizeOf64, Yba.isAgg64, Yba.zeroValue64, Yba.underlying67, Yba.runUnderlying67, Yba.sizeOf67, Yba.isAgg67, Yba.zeroValue67, Yba.underlying69, Yba.runUnderlying69, Yba.sizeOf69, Yba.isAgg69, Yba.zeroValue69, Yba.underlying71, Yba.runUnderlying71, Yba.sizeOf71, Yba.isAgg71, Yba.zeroValue71, Yba.underlying33, Yba.runUnderlying33, Yba.sizeOf33, Yba.isAgg33, Yba.zeroValue33, Yba.underlying21, Yba.runUnderlying21, Yba.sizeOf21, Yba.isAgg21, Yba.zeroValue21, (by kernel_rfl)⟩
end Go.Proofs
