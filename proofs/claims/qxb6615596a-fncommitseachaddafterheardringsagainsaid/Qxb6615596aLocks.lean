/-
  The numbers under which this dump holds sync.Mutex's functions and types, and that it holds them (the kit's MuLib). Typed by hand after the worked StatsLocks (the tool that prints such a text does not lie here); checked by the kernel as it is compiled. By an AI agent, Nov 2026.
-/
import Derived.Test.Qxb6615596aProg
import Derived.Conc.MuLib
import Derived.KernelRfl
namespace Go.Proofs
abbrev Try.muLink : Go.Conc.Locks.MuLink := { lock := 25, unlock := 26, ilock := 28, iunlock := 29, lockSlow := 34, unlockSlow := 37, disable := 30, enable := 32, acquire := 33, relMerge := 35, cas32 := 31, add32 := 36, tMutex := 57, tIMutex := 55, tPMutex := 61, tPIMutex := 62, tPI32 := 64, tUP := 66, tNoCopy := 53, tU32 := 34 }
theorem Try.muLib : Go.Conc.Locks.MuLib Try.prog Try.muLink :=
  ⟨Try.func25, Try.func26, Try.func28, Try.func29, Try.func30, Try.func32, Try.func33, Try.func35, Try.func31, Try.func36, Try.underlying55, Try.runUnderlying55, Try.sizeOf55, Try.isAgg55, Try.zeroValue55, Try.underlying57, Try.runUnderlying57, Try.sizeOf57, Try.isAgg57, Try.zeroValue57, Try.underlying61, Try.runUnderlying61, Try.sizeOf61, Try.isAgg61, Try.zeroValue61, Try.underlying62, Try.runUnderlying62, Try.sizeOf62, Try.isAgg62, Try.zeroValue62, Try.underlying64, Try.runUnderlying64, Try.sizeOf64, Try.isAgg64, Try.zeroValue64, Try.underlying66, Try.runUnderlying66, Try.sizeOf66, Try.isAgg66, Try.zeroValue66, Try.underlying53, Try.runUnderlying53, Try.sizeOf53, Try.isAgg53, Try.zeroValue53, Try.underlying21, Try.runUnderlying21, Try.sizeOf21, Try.isAgg21, Try.zeroValue21, (by kernel_rfl)⟩
end Go.Proofs
