/- The numbers under which this dump holds sync.Mutex's functions and types, and that it holds them (after the guide's RegLocks.lean; typed by hand: the tool that prints it does not lie here). -/
import Derived.Test.Qxb6603579aProg
import Derived.Conc.RwLib
import Derived.Conc.MuData
import Derived.KernelRfl
namespace Go.Proofs
abbrev Try.muLink : Go.Conc.Locks.MuLink := { lock := 19, unlock := 20, ilock := 23, iunlock := 24, lockSlow := 29, unlockSlow := 32, disable := 25, enable := 27, acquire := 28, relMerge := 30, cas32 := 26, add32 := 31, tMutex := 62, tIMutex := 60, tPMutex := 65, tPIMutex := 66, tPI32 := 68, tUP := 70, tNoCopy := 57, tU32 := 58 }
theorem Try.muLib : Go.Conc.Locks.MuLib Try.prog Try.muLink :=
  ⟨Try.func19, Try.func20, Try.func23, Try.func24, Try.func25, Try.func27, Try.func28, Try.func30, Try.func26, Try.func31, Try.underlying60, Try.runUnderlying60, Try.sizeOf60, Try.isAgg60, Try.zeroValue60, Try.underlying62, Try.runUnderlying62, Try.sizeOf62, Try.isAgg62, Try.zeroValue62, Try.underlying65, Try.runUnderlying65, Try.sizeOf65, Try.isAgg65, Try.zeroValue65, Try.underlying66, Try.runUnderlying66, Try.sizeOf66, Try.isAgg66, Try.zeroValue66, Try.underlying68, Try.runUnderlying68, Try.sizeOf68, Try.isAgg68, Try.zeroValue68, Try.underlying70, Try.runUnderlying70, Try.sizeOf70, Try.isAgg70, Try.zeroValue70, Try.underlying57, Try.runUnderlying57, Try.sizeOf57, Try.isAgg57, Try.zeroValue57, Try.underlying21, Try.runUnderlying21, Try.sizeOf21, Try.isAgg21, Try.zeroValue21, (by kernel_rfl)⟩
end Go.Proofs
