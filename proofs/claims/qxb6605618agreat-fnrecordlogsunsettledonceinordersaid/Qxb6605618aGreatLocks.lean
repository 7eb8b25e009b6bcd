/-
  The numbers under which this dump holds sync.Mutex's functions and types, and that it holds them.
-/
import Derived.Test.Qxb6605618aGreatProg
import Derived.Conc.MuLib
import Derived.Conc.MuData
import Derived.KernelRfl
namespace Go.Proofs
abbrev Tryz.muLink : Go.Conc.Locks.MuLink := { lock := 15, unlock := 16, ilock := 17, iunlock := 18, lockSlow := 23, unlockSlow := 26, disable := 19, enable := 21, acquire := 22, relMerge := 24, cas32 := 20, add32 := 25, tMutex := 53, tIMutex := 51, tPMutex := 75, tPIMutex := 76, tPI32 := 78, tUP := 80, tNoCopy := 41, tU32 := 47 }
theorem Tryz.muLib : Go.Conc.Locks.MuLib Tryz.prog Tryz.muLink :=
  ⟨Tryz.func15, Tryz.func16, Tryz.func17, Tryz.func18, Tryz.func19, Tryz.func21, Tryz.func22, Tryz.func24, Tryz.func20, Tryz.func25, Tryz.underlying51, Tryz.runUnderlying51, Tryz.sizeOf51, Tryz.isAgg51, Tryz.zeroValue51, Tryz.underlying53, Tryz.runUnderlying53, Tryz.sizeOf53, Tryz.isAgg53, Tryz.zeroValue53, Tryz.underlying75, Tryz.runUnderlying75, Tryz.sizeOf75, Tryz.isAgg75, Tryz.zeroValue75, Tryz.underlying76, Tryz.runUnderlying76, Tryz.sizeOf76, Tryz.isAgg76, Tryz.zeroValue76, Tryz.underlying78, Tryz.runUnderlying78, Tryz.sizeOf78, Tryz.isAgg78, Tryz.zeroValue78, Tryz.underlying80, Tryz.runUnderlying80, Tryz.sizeOf80, Tryz.isAgg80, Tryz.zeroValue80, Tryz.underlying41, Tryz.runUnderlying41, Tryz.sizeOf41, Tryz.isAgg41, Tryz.zeroValue41, Tryz.underlying21, Tryz.runUnderlying21, Tryz.sizeOf21, Tryz.isAgg21, Tryz.zeroValue21, (by kernel_rfl)⟩
end Go.Proofs
