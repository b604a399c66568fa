/-
  The numbers under which this dump holds sync.Mutex's functions and types, and that it holds them (Derived/Conc/MuLib.lean). The kernel checks every number.
-/
import Derived.Test.YbulkisDoorProg
import Derived.Conc.MuLone
import Derived.KernelRfl
namespace Go.Proofs
abbrev Ybad.muLink : Go.Conc.Locks.MuLink := { lock := 11, unlock := 13, ilock := 21, iunlock := 23, lockSlow := 32, unlockSlow := 35, disable := 28, enable := 30, acquire := 31, relMerge := 33, cas32 := 29, add32 := 34, tMutex := 31, tIMutex := 29, tPMutex := 97, tPIMutex := 105, tPI32 := 107, tUP := 50, tNoCopy := 26, tU32 := 27 }
theorem Ybad.muLib : Go.Conc.Locks.MuLib Ybad.prog Ybad.muLink :=
  ⟨Ybad.func11, Ybad.func13, Ybad.func21, Ybad.func23, Ybad.func28, Ybad.func30, Ybad.func31, Ybad.func33, Ybad.func29, Ybad.func34, Ybad.underlying29, Ybad.runUnderlying29, Ybad.sizeOf29, Ybad.isAgg29, Ybad.zeroValue29, Ybad.underlying31, Ybad.runUnderlying31, Ybad.sizeOf31, Ybad.isAgg31, Ybad.zeroValue31, Ybad.underlying97, Ybad.runUnderlying97, Ybad.sizeOf97, Ybad.isAgg97, Ybad.zeroValue97, Ybad.underlying105, Ybad.runUnderlying105, Ybad.sizeOf105, Ybad.isAgg105, Ybad.zeroValue105, Ybad.underlying107, Ybad.runUnderlying107, Ybad.sizeOf107, Ybad.isAgg107, Ybad.zeroValue107, Ybad.underlying50, Ybad.runUnderlying50, Ybad.sizeOf50, Ybad.isAgg50, Ybad.zeroValue50, Ybad.underlying26, Ybad.runUnderlying26, Ybad.sizeOf26, Ybad.isAgg26, Ybad.zeroValue26, Ybad.underlying21, Ybad.runUnderlying21, Ybad.sizeOf21, Ybad.isAgg21, Ybad.zeroValue21, (by kernel_rfl)⟩
end Go.Proofs
