/-
  The numbers under which this dump holds the library's mutex, and that it holds it. No condition.
-/
import Derived.Test.YteamfcjfoihehaaGreatDoorSm
import Derived.Conc.MuLone
import Derived.Conc.MuData
import Derived.KernelRfl
namespace Go.Proofs
abbrev Tryz.muLink : Go.Conc.Locks.MuLink := { lock := 20, unlock := 21, ilock := 27, iunlock := 28, lockSlow := 36, unlockSlow := 39, disable := 32, enable := 34, acquire := 35, relMerge := 37, cas32 := 33, add32 := 38, tMutex := 129, tIMutex := 127, tPMutex := 137, tPIMutex := 146, tPI32 := 148, tUP := 150, tNoCopy := 125, tU32 := 96 }
theorem Tryz.muLib : Go.Conc.Locks.MuLib Tryz.prog Tryz.muLink :=
  ⟨Tryz.func20, Tryz.func21, Tryz.func27, Tryz.func28, Tryz.func32, Tryz.func34, Tryz.func35, Tryz.func37, Tryz.func33, Tryz.func38, Tryz.underlying127, Tryz.runUnderlying127, Tryz.sizeOf127, Tryz.isAgg127, Tryz.zeroValue127, Tryz.underlying129, Tryz.runUnderlying129, Tryz.sizeOf129, Tryz.isAgg129, Tryz.zeroValue129, Tryz.underlying137, Tryz.runUnderlying137, Tryz.sizeOf137, Tryz.isAgg137, Tryz.zeroValue137, Tryz.underlying146, Tryz.runUnderlying146, Tryz.sizeOf146, Tryz.isAgg146, Tryz.zeroValue146, Tryz.underlying148, Tryz.runUnderlying148, Tryz.sizeOf148, Tryz.isAgg148, Tryz.zeroValue148, Tryz.underlying150, Tryz.runUnderlying150, Tryz.sizeOf150, Tryz.isAgg150, Tryz.zeroValue150, Tryz.underlying125, Tryz.runUnderlying125, Tryz.sizeOf125, Tryz.isAgg125, Tryz.zeroValue125, Tryz.underlying21, Tryz.runUnderlying21, Tryz.sizeOf21, Tryz.isAgg21, Tryz.zeroValue21, (by kernel_rfl)⟩
end Go.Proofs
