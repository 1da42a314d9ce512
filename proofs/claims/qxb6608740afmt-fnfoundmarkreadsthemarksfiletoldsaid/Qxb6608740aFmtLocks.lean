/-
  The numbers under which this dump holds sync.Mutex's functions and types, and that it holds them (Derived/Conc/MuLib.lean).
-/
import Derived.Test.Qxb6608740aFmtProg
import Derived.Conc.RwLib
import Derived.Conc.MuData
import Derived.KernelRfl
namespace Go.Proofs
abbrev Tryf.muLink : Go.Conc.Locks.MuLink := { lock := 22, unlock := 23, ilock := 31, iunlock := 32, lockSlow := 43, unlockSlow := 46, disable := 39, enable := 41, acquire := 42, relMerge := 44, cas32 := 40, add32 := 45, tMutex := 53, tIMutex := 51, tPMutex := 77, tPIMutex := 88, tPI32 := 90, tUP := 92, tNoCopy := 48, tU32 := 49 }
theorem Tryf.muLib : Go.Conc.Locks.MuLib Tryf.prog Tryf.muLink :=
  ⟨Tryf.func22, Tryf.func23, Tryf.func31, Tryf.func32, Tryf.func39, Tryf.func41, Tryf.func42, Tryf.func44, Tryf.func40, Tryf.func45, Tryf.underlying51, Tryf.runUnderlying51, Tryf.sizeOf51, Tryf.isAgg51, Tryf.zeroValue51, Tryf.underlying53, Tryf.runUnderlying53, Tryf.sizeOf53, Tryf.isAgg53, Tryf.zeroValue53, Tryf.underlying77, Tryf.runUnderlying77, Tryf.sizeOf77, Tryf.isAgg77, Tryf.zeroValue77, Tryf.underlying88, Tryf.runUnderlying88, Tryf.sizeOf88, Tryf.isAgg88, Tryf.zeroValue88, Tryf.underlying90, Tryf.runUnderlying90, Tryf.sizeOf90, Tryf.isAgg90, Tryf.zeroValue90, Tryf.underlying92, Tryf.runUnderlying92, Tryf.sizeOf92, Tryf.isAgg92, Tryf.zeroValue92, Tryf.underlying48, Tryf.runUnderlying48, Tryf.sizeOf48, Tryf.isAgg48, Tryf.zeroValue48, Tryf.underlying21, Tryf.runUnderlying21, Tryf.sizeOf21, Tryf.isAgg21, Tryf.zeroValue21, (by kernel_rfl)⟩
end Go.Proofs
