/-
  THE NUMBERS UNDER WHICH THIS DUMP HOLDS sync.Mutex's FUNCTIONS AND TYPES, and that it holds them. Typed by hand (the printing tool lies not here); the kernel checks each.
-/
import Derived.Test.Qxb6625440aRows
import Derived.Conc.MuLib
import Derived.KernelRfl
namespace Go.Proofs.Qxb6625440a
abbrev Try.muLink : Go.Conc.Locks.MuLink := { lock := 25, unlock := 26, ilock := 27, iunlock := 28, lockSlow := 33, unlockSlow := 36, disable := 29, enable := 31, acquire := 32, relMerge := 34, cas32 := 30, add32 := 35, tMutex := 53, tIMutex := 51, tPMutex := 63, tPIMutex := 64, tPI32 := 66, tUP := 68, tNoCopy := 48, tU32 := 49 }
theorem Try.muLib : Go.Conc.Locks.MuLib Try.prog Try.muLink :=
  ⟨Try.func25, Try.func26, Try.func27, Try.func28, Try.func29, Try.func31, Try.func32, Try.func34, Try.func30, Try.func35, Try.underlying51, Try.runUnderlying51, Try.sizeOf51, Try.isAgg51, Try.zeroValue51, Try.underlying53, Try.runUnderlying53, Try.sizeOf53, Try.isAgg53, Try.zeroValue53, Try.underlying63, Try.runUnderlying63, Try.sizeOf63, Try.isAgg63, Try.zeroValue63, Try.underlying64, Try.runUnderlying64, Try.sizeOf64, Try.isAgg64, Try.zeroValue64, Try.underlying66, Try.runUnderlying66, Try.sizeOf66, Try.isAgg66, Try.zeroValue66, Try.underlying68, Try.runUnderlying68, Try.sizeOf68, Try.isAgg68, Try.zeroValue68, Try.underlying48, Try.runUnderlying48, Try.sizeOf48, Try.isAgg48, Try.zeroValue48, Try.underlying21, Try.runUnderlying21, Try.sizeOf21, Try.isAgg21, Try.zeroValue21, (by kernel_rfl)⟩
end Go.Proofs.Qxb6625440a
