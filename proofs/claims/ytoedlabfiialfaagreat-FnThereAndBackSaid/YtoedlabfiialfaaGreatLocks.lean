/-
  The numbers under which this translation holds the lock's functions and types, and that it holds them.
-/
import Derived.Test.YtoedlabfiialfaaGreatProg
import Derived.Conc.MuLone
import Derived.Conc.MuData
import Derived.KernelRfl
namespace Go.Proofs.YtoedlabfiialfaaGreat
abbrev muLink : Go.Conc.Locks.MuLink := { lock := 100, unlock := 101, ilock := 111, iunlock := 112, lockSlow := 117, unlockSlow := 120, disable := 113, enable := 115, acquire := 116, relMerge := 118, cas32 := 114, add32 := 119, tMutex := 131, tIMutex := 129, tPMutex := 182, tPIMutex := 183, tPI32 := 177, tUP := 186, tNoCopy := 127, tU32 := 37 }
theorem muLib : Go.Conc.Locks.MuLib Tryz.prog muLink :=
  ⟨Tryz.func100, Tryz.func101, Tryz.func111, Tryz.func112, Tryz.func113, Tryz.func115, Tryz.func116, Tryz.func118, Tryz.func114, Tryz.func119, Tryz.underlying129, Tryz.runUnderlying129, Tryz.sizeOf129, Tryz.isAgg129, Tryz.zeroValue129, Tryz.underlying131, Tryz.runUnderlying131, Tryz.sizeOf131, Tryz.isAgg131, Tryz.zeroValue131, Tryz.underlying182, Tryz.runUnderlying182, Tryz.sizeOf182, Tryz.isAgg182, Tryz.zeroValue182, Tryz.underlying183, Tryz.runUnderlying183, Tryz.sizeOf183, Tryz.isAgg183, Tryz.zeroValue183, Tryz.underlying177, Tryz.runUnderlying177, Tryz.sizeOf177, Tryz.isAgg177, Tryz.zeroValue177, Tryz.underlying186, Tryz.runUnderlying186, Tryz.sizeOf186, Tryz.isAgg186, Tryz.zeroValue186, Tryz.underlying127, Tryz.runUnderlying127, Tryz.sizeOf127, Tryz.isAgg127, Tryz.zeroValue127, Tryz.underlying21, Tryz.runUnderlying21, Tryz.sizeOf21, Tryz.isAgg21, Tryz.zeroValue21, (by kernel_rfl)⟩
end Go.Proofs.YtoedlabfiialfaaGreat
