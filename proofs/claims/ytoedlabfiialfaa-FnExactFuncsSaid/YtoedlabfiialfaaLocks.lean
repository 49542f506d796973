/-
  The numbers under which this translation holds the lock's functions and types, and that it holds them.
-/
import Derived.Test.YtoedlabfiialfaaProg
import Derived.Conc.MuLone
import Derived.Conc.MuData
import Derived.KernelRfl
namespace Go.Proofs.Ytoedlabfiialfaa
abbrev muLink : Go.Conc.Locks.MuLink := { lock := 58, unlock := 59, ilock := 84, iunlock := 85, lockSlow := 97, unlockSlow := 100, disable := 93, enable := 95, acquire := 96, relMerge := 98, cas32 := 94, add32 := 99, tMutex := 99, tIMutex := 97, tPMutex := 153, tPIMutex := 157, tPI32 := 149, tUP := 160, tNoCopy := 95, tU32 := 39 }
theorem muLib : Go.Conc.Locks.MuLib Try.prog muLink :=
  ⟨Try.func58, Try.func59, Try.func84, Try.func85, Try.func93, Try.func95, Try.func96, Try.func98, Try.func94, Try.func99, Try.underlying97, Try.runUnderlying97, Try.sizeOf97, Try.isAgg97, Try.zeroValue97, Try.underlying99, Try.runUnderlying99, Try.sizeOf99, Try.isAgg99, Try.zeroValue99, Try.underlying153, Try.runUnderlying153, Try.sizeOf153, Try.isAgg153, Try.zeroValue153, Try.underlying157, Try.runUnderlying157, Try.sizeOf157, Try.isAgg157, Try.zeroValue157, Try.underlying149, Try.runUnderlying149, Try.sizeOf149, Try.isAgg149, Try.zeroValue149, Try.underlying160, Try.runUnderlying160, Try.sizeOf160, Try.isAgg160, Try.zeroValue160, Try.underlying95, Try.runUnderlying95, Try.sizeOf95, Try.isAgg95, Try.zeroValue95, Try.underlying21, Try.runUnderlying21, Try.sizeOf21, Try.isAgg21, Try.zeroValue21, (by kernel_rfl)⟩
end Go.Proofs.Ytoedlabfiialfaa
