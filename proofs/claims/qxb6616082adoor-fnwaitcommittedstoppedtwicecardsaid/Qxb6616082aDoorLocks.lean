/-
  The numbers under which this dump holds sync.Mutex's functions and types, and that it holds them (typed by hand after the worked example).
-/
import Derived.Test.Qxb6616082aDoorRows
import Derived.Conc.MuLone
import Derived.KernelRfl
namespace Go.Proofs.Qxb6616082aDoor
abbrev muLink : Go.Conc.Locks.MuLink := { lock := 15, unlock := 16, ilock := 21, iunlock := 22, lockSlow := 28, unlockSlow := 31, disable := 24, enable := 26, acquire := 27, relMerge := 29, cas32 := 25, add32 := 30, tMutex := 83, tIMutex := 81, tPMutex := 119, tPIMutex := 131, tPI32 := 133, tUP := 135, tNoCopy := 76, tU32 := 73 }
theorem muLib : Go.Conc.Locks.MuLib Tryd.prog muLink :=
  ⟨Tryd.func15, Tryd.func16, Tryd.func21, Tryd.func22, Tryd.func24, Tryd.func26, Tryd.func27, Tryd.func29, Tryd.func25, Tryd.func30, Tryd.underlying81, Tryd.runUnderlying81, Tryd.sizeOf81, Tryd.isAgg81, Tryd.zeroValue81, Tryd.underlying83, Tryd.runUnderlying83, Tryd.sizeOf83, Tryd.isAgg83, Tryd.zeroValue83, Tryd.underlying119, Tryd.runUnderlying119, Tryd.sizeOf119, Tryd.isAgg119, Tryd.zeroValue119, Tryd.underlying131, Tryd.runUnderlying131, Tryd.sizeOf131, Tryd.isAgg131, Tryd.zeroValue131, Tryd.underlying133, Tryd.runUnderlying133, Tryd.sizeOf133, Tryd.isAgg133, Tryd.zeroValue133, Tryd.underlying135, Tryd.runUnderlying135, Tryd.sizeOf135, Tryd.isAgg135, Tryd.zeroValue135, Tryd.underlying76, Tryd.runUnderlying76, Tryd.sizeOf76, Tryd.isAgg76, Tryd.zeroValue76, Tryd.underlying21, Tryd.runUnderlying21, Tryd.sizeOf21, Tryd.isAgg21, Tryd.zeroValue21, (by kernel_rfl)⟩
end Go.Proofs.Qxb6616082aDoor
