/- The numbers under which this program holds sync.Mutex's functions and types, and that it holds them. -/
import Derived.Test.Qxb6626077aRows
import Derived.Conc.MuLone
import Derived.KernelRfl
namespace Go.Proofs
abbrev Try.muLink : Go.Conc.Locks.MuLink := { lock := 18, unlock := 21, ilock := 22, iunlock := 26, lockSlow := 31, unlockSlow := 36, disable := 27, enable := 29, acquire := 30, relMerge := 34, cas32 := 28, add32 := 35, tMutex := 58, tIMutex := 56, tPMutex := 72, tPIMutex := 75, tPI32 := 77, tUP := 79, tNoCopy := 53, tU32 := 54 }
theorem Try.muLib : Go.Conc.Locks.MuLib Try.prog Try.muLink :=
  ⟨Try.func18, Try.func21, Try.func22, Try.func26, Try.func27, Try.func29, Try.func30, Try.func34, Try.func28, Try.func35, Try.underlying56, Try.runUnderlying56, Try.sizeOf56, Try.isAgg56, Try.zeroValue56, Try.underlying58, Try.runUnderlying58, Try.sizeOf58, Try.isAgg58, Try.zeroValue58, Try.underlying72, Try.runUnderlying72, Try.sizeOf72, Try.isAgg72, Try.zeroValue72, Try.underlying75, Try.runUnderlying75, Try.sizeOf75, Try.isAgg75, Try.zeroValue75, Try.underlying77, Try.runUnderlying77, Try.sizeOf77, Try.isAgg77, Try.zeroValue77, Try.underlying79, Try.runUnderlying79, Try.sizeOf79, Try.isAgg79, Try.zeroValue79, Try.underlying53, Try.runUnderlying53, Try.sizeOf53, Try.isAgg53, Try.zeroValue53, Try.underlying21, Try.runUnderlying21, Try.sizeOf21, Try.isAgg21, Try.zeroValue21, (by kernel_rfl)⟩
end Go.Proofs
