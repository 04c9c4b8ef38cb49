/-
  The numbers under which this translation holds sync.Mutex's functions and types, and that it holds them (Derived/Conc/MuLib.lean). Typed by hand after the translation's own numbers; the kernel checks each.
-/
import Derived.Test.YbulkauseProg
import Derived.Conc.MuLib
import Derived.Conc.MuLone
import Derived.KernelRfl
namespace Go.Proofs
abbrev Yba.muLink : Go.Conc.Locks.MuLink := { lock := 29, unlock := 30, ilock := 35, iunlock := 36, lockSlow := 42, unlockSlow := 45, disable := 38, enable := 40, acquire := 41, relMerge := 43, cas32 := 39, add32 := 44, tMutex := 36, tIMutex := 34, tPMutex := 173, tPIMutex := 175, tPI32 := 177, tUP := 179, tNoCopy := 31, tU32 := 32 }
theorem Yba.muLib : Go.Conc.Locks.MuLib Yba.prog Yba.muLink :=
  ⟨Yba.func29, Yba.func30, Yba.func35, Yba.func36, Yba.func38, Yba.func40, Yba.func41, Yba.func43, Yba.func39, Yba.func44, Yba.underlying34, Yba.runUnderlying34, Yba.sizeOf34, Yba.isAgg34, Yba.zeroValue34, Yba.underlying36, Yba.runUnderlying36, Yba.sizeOf36, Yba.isAgg36, Yba.zeroValue36, Yba.underlying173, Yba.runUnderlying173, Yba.sizeOf173, Yba.isAgg173, Yba.zeroValue173, Yba.underlying175, Yba.runUnderlying175, Yba.sizeOf175, Yba.isAgg175, Yba.zeroValue175, Yba.underlying177, Yba.runUnderlying177, Yba.sizeOf177, Yba.isAgg177, Yba.zeroValue177, Yba.underlying179, Yba.runUnderlying179, Yba.sizeOf179, Yba.isAgg179, Yba.zeroValue179, Yba.underlying31, Yba.runUnderlying31, Yba.sizeOf31, Yba.isAgg31, Yba.zeroValue31, Yba.underlying21, Yba.runUnderlying21, Yba.sizeOf21, Yba.isAgg21, Yba.zeroValue21, (by kernel_rfl)⟩
end Go.Proofs
