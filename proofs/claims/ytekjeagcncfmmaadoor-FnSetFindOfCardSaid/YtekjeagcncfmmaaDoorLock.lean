/- The reader's two methods of sync.RWMutex by the kit's contracts: the numbers under which this program holds them. -/
import Derived.Test.YtekjeagcncfmmaaDoorProg
import Derived.Conc.RwLone
import Derived.KernelRfl
set_option linter.unusedVariables false
namespace Go.Proofs.YtekjeagcncfmmaaDoor
open Go.Conc.Locks
abbrev rwLink : RwLink := { lock := 0, unlock := 0, ilock := 0, iunlock := 0, lockSlow := 0, unlockSlow := 0, disable := 26, enable := 29, acquire := 30, relMerge := 31, cas32 := 0, add32 := 39, tMutex := 47, tIMutex := 45, tPMutex := 68, tPIMutex := 0, tPI32 := 83, tUP := 67, tNoCopy := 42, tU32 := 43, rlock := 15, runlock := 16, wlock := 0, wunlock := 0, i32add := 27, raceRead := 25, release := 0, rUnlockSlow := 32, semacqR := 28, semacqW := 0, semrel := 41, sfatal := 40, tRW := 52, tPRW := 65, tAI32 := 50, tPAI32 := 81, tPU32 := 71, tANoCopy := 48 }
theorem rwCore : RwCore Tryd.prog rwLink :=
  ⟨Tryd.func27, Tryd.func25, Tryd.func26, Tryd.func29, Tryd.func30, Tryd.func31, Tryd.func39,
   Tryd.underlying52, Tryd.runUnderlying52, Tryd.sizeOf52, Tryd.isAgg52, Tryd.zeroValue52,
   Tryd.underlying50, Tryd.runUnderlying50, Tryd.sizeOf50, Tryd.isAgg50, Tryd.zeroValue50,
   Tryd.underlying65, Tryd.runUnderlying65, Tryd.sizeOf65, Tryd.isAgg65, Tryd.zeroValue65,
   Tryd.underlying81, Tryd.runUnderlying81, Tryd.sizeOf81, Tryd.isAgg81, Tryd.zeroValue81,
   Tryd.underlying71, Tryd.runUnderlying71, Tryd.sizeOf71, Tryd.isAgg71, Tryd.zeroValue71,
   Tryd.underlying48, Tryd.runUnderlying48, Tryd.sizeOf48, Tryd.isAgg48, Tryd.zeroValue48,
   Tryd.underlying43, Tryd.runUnderlying43, Tryd.sizeOf43, Tryd.isAgg43, Tryd.zeroValue43,
   Tryd.underlying47, Tryd.runUnderlying47, Tryd.sizeOf47, Tryd.isAgg47, Tryd.zeroValue47,
   Tryd.underlying68, Tryd.runUnderlying68, Tryd.sizeOf68, Tryd.isAgg68, Tryd.zeroValue68,
   Tryd.underlying83, Tryd.runUnderlying83, Tryd.sizeOf83, Tryd.isAgg83, Tryd.zeroValue83,
   Tryd.underlying67, Tryd.runUnderlying67, Tryd.sizeOf67, Tryd.isAgg67, Tryd.zeroValue67,
   Tryd.underlying21, Tryd.runUnderlying21, Tryd.sizeOf21, Tryd.isAgg21, Tryd.zeroValue21,
   (by kernel_rfl), (by kernel_rfl)⟩
theorem rwRLib : RwRLib Tryd.prog rwLink := ⟨rwCore, Tryd.func15, Tryd.func16⟩
end Go.Proofs.YtekjeagcncfmmaaDoor
