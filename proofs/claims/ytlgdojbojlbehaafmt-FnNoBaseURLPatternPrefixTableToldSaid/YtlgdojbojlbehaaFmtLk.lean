/-
  The numbers under which this dump holds the library's mutex, and that it holds it. No condition.
-/
import Derived.Test.YtlgdojbojlbehaaFmtNr
import Derived.Test.YtlgdojbojlbehaaFmtProg
import Derived.WalkSmall
import Derived.Handy
import Derived.OwnWalk
import Derived.Laws.Concat
import Derived.Conc.MuLone
import Derived.Conc.MuData
import Derived.KernelRfl
namespace Go.Proofs
abbrev Tryf.muLink : Go.Conc.Locks.MuLink := { lock := 12, unlock := 13, ilock := 23, iunlock := 24, lockSlow := 32, unlockSlow := 35, disable := 28, enable := 30, acquire := 31, relMerge := 33, cas32 := 29, add32 := 34, tMutex := 59, tIMutex := 57, tPMutex := 76, tPIMutex := 84, tPI32 := 86, tUP := 88, tNoCopy := 55, tU32 := 43 }
theorem Tryf.muLib : Go.Conc.Locks.MuLib Tryf.prog Tryf.muLink :=
  ⟨Tryf.func12, Tryf.func13, Tryf.func23, Tryf.func24, Tryf.func28, Tryf.func30, Tryf.func31, Tryf.func33, Tryf.func29, Tryf.func34, Tryf.underlying57, Tryf.runUnderlying57, Tryf.sizeOf57, Tryf.isAgg57, Tryf.zeroValue57, Tryf.underlying59, Tryf.runUnderlying59, Tryf.sizeOf59, Tryf.isAgg59, Tryf.zeroValue59, Tryf.underlying76, Tryf.runUnderlying76, Tryf.sizeOf76, Tryf.isAgg76, Tryf.zeroValue76, Tryf.underlying84, Tryf.runUnderlying84, Tryf.sizeOf84, Tryf.isAgg84, Tryf.zeroValue84, Tryf.underlying86, Tryf.runUnderlying86, Tryf.sizeOf86, Tryf.isAgg86, Tryf.zeroValue86, Tryf.underlying88, Tryf.runUnderlying88, Tryf.sizeOf88, Tryf.isAgg88, Tryf.zeroValue88, Tryf.underlying55, Tryf.runUnderlying55, Tryf.sizeOf55, Tryf.isAgg55, Tryf.zeroValue55, Tryf.underlying21, Tryf.runUnderlying21, Tryf.sizeOf21, Tryf.isAgg21, Tryf.zeroValue21, (by kernel_rfl)⟩
end Go.Proofs
