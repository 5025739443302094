/-
  Seat b6616989a: the numbers under which this dump holds sync.Mutex's functions and types, and that it holds them; checked by the kernel.
-/
import Derived.Test.Qxb6616989aRows
import Derived.Conc.RwLib
import Derived.Conc.MuData
import Derived.KernelRfl
namespace Go.Proofs.Qxb6616989a
abbrev muLink : Go.Conc.Locks.MuLink := { lock := 16, unlock := 17, ilock := 19, iunlock := 20, lockSlow := 25, unlockSlow := 28, disable := 21, enable := 23, acquire := 24, relMerge := 26, cas32 := 22, add32 := 27, tMutex := 41, tIMutex := 39, tPMutex := 67, tPIMutex := 69, tPI32 := 71, tUP := 73, tNoCopy := 36, tU32 := 37 }
theorem muLib : Go.Conc.Locks.MuLib Try.prog muLink :=
  ⟨Try.func16, Try.func17, Try.func19, Try.func20, Try.func21, Try.func23, Try.func24, Try.func26, Try.func22, Try.func27,
    Try.underlying39, Try.runUnderlying39, Try.sizeOf39, Try.isAgg39, Try.zeroValue39, Try.underlying41, Try.runUnderlying41, Try.sizeOf41, Try.isAgg41, Try.zeroValue41,
    Try.underlying67, Try.runUnderlying67, Try.sizeOf67, Try.isAgg67, Try.zeroValue67, Try.underlying69, Try.runUnderlying69, Try.sizeOf69, Try.isAgg69, Try.zeroValue69,
    Try.underlying71, Try.runUnderlying71, Try.sizeOf71, Try.isAgg71, Try.zeroValue71, Try.underlying73, Try.runUnderlying73, Try.sizeOf73, Try.isAgg73, Try.zeroValue73,
    Try.underlying36, Try.runUnderlying36, Try.sizeOf36, Try.isAgg36, Try.zeroValue36, Try.underlying21, Try.runUnderlying21, Try.sizeOf21, Try.isAgg21, Try.zeroValue21, (by kernel_rfl)⟩
end Go.Proofs.Qxb6616989a
